import PyProof.Rows.All
import Wide.All
import OpenK.AllK
import Wide.FinOn
import KE.KSortTup
import PySem.Challenge.RW_to0029_01

set_option Elab.async false
set_option maxRecDepth 100000
set_option maxHeartbeats 1000000

namespace Mine
open PySem PySem.W PySem.Calls PyProof.Rows

/-- clean values -/
inductive CV where
  | none
  | bool (b : Bool)
  | int (i : Int)
  | tint (i : Int)
  | intT (i : Int) (p : Nat → Prop)
  | ptr (a : Addr)
  | str (s : Str)
  | list (xs : List CV)
  | tup (xs : List CV)

mutual
/-- the value v bears the clean value in the heap h; X: addresses that may still change; n: the tokens' bound -/
noncomputable def Rel (X : List Addr) (h : Heap) (n : Nat) : CV → Value → Prop
  | .none, v => v = .none
  | .bool b, v => v = .bool b
  | .int i, v => ∃ t, v = .int i t
  | .tint i, v => ∃ t, v = .int i t ∧ 0 < t ∧ t < n
  | .intT i p, v => ∃ t, v = .int i t ∧ p t
  | .ptr a, v => v = .ref a
  | .str s, v => ∃ t, v = .str s t
  | .list xs, v => ∃ a its, v = .ref a ∧ a ∉ X ∧ h.PlainList a its ∧ Rels X h n xs its.toList
  | .tup xs, v => ∃ a its, v = .ref a ∧ a ∉ X ∧ h.IsTuple a its ∧ Rels X h n xs its.toList
noncomputable def Rels (X : List Addr) (h : Heap) (n : Nat) : List CV → List Value → Prop
  | [], vs => vs = []
  | x :: xs, vs => ∃ v vs', vs = v :: vs' ∧ Rel X h n x v ∧ Rels X h n xs vs'
end

noncomputable def Live (h : Heap) (a : Addr) : Prop := ∃ o, h.get? a = some o

mutual
theorem Rel.move {X Y : List Addr} {h h' : Heap} {n n' : Nat} (hX : ∀ a, Live h a → a ∉ X → a ∉ Y) (hk : ∀ b o, b ∉ X → h.get? b = some o → h'.get? b = some o) (hn : n ≤ n') :
    ∀ {c : CV} {v : Value}, Rel X h n c v → Rel Y h' n' c v
  | .none, _, r => r
  | .bool _, _, r => r
  | .int _, _, r => r
  | .tint _, _, ⟨t, e, h1, h2⟩ => ⟨t, e, h1, Nat.lt_of_lt_of_le h2 hn⟩
  | .intT _ _, _, r => r
  | .ptr _, _, r => r
  | .str _, _, r => r
  | .list _, _, ⟨a, its, e, ha, ⟨m, ho⟩, r⟩ => ⟨a, its, e, hX a ⟨_, ho⟩ ha, ⟨m, hk a _ ha ho⟩, Rels.move hX hk hn r⟩
  | .tup _, _, ⟨a, its, e, ha, ⟨o, ho, hc⟩, r⟩ => ⟨a, its, e, hX a ⟨o, ho⟩ ha, ⟨o, hk a o ha ho, hc⟩, Rels.move hX hk hn r⟩
theorem Rels.move {X Y : List Addr} {h h' : Heap} {n n' : Nat} (hX : ∀ a, Live h a → a ∉ X → a ∉ Y) (hk : ∀ b o, b ∉ X → h.get? b = some o → h'.get? b = some o) (hn : n ≤ n') :
    ∀ {cs : List CV} {vs : List Value}, Rels X h n cs vs → Rels Y h' n' cs vs
  | [], _, r => r
  | _ :: _, _, ⟨v, vs', e, r, rs⟩ => ⟨v, vs', e, Rel.move hX hk hn r, Rels.move hX hk hn rs⟩
end

theorem Rels.length {X h n} : ∀ {cs : List CV} {vs : List Value}, Rels X h n cs vs → vs.length = cs.length
  | [], _, r => by rw [show _ = ([] : List Value) from r]; rfl
  | _ :: _, _, ⟨_, _, e, _, rs⟩ => by rw [e, List.length_cons, List.length_cons, Rels.length rs]
theorem Rels.get {X h n} : ∀ {cs : List CV} {vs : List Value} {i : Nat} {c : CV}, Rels X h n cs vs → cs[i]? = some c → ∃ v, vs[i]? = some v ∧ Rel X h n c v
  | [], _, _, _, _, e => by simp at e
  | _ :: _, _, 0, _, ⟨v, _, e, r, _⟩, q => by simp at q; subst q; exact ⟨v, by rw [e]; rfl, r⟩
  | _ :: _, _, i + 1, _, ⟨_, _, e, _, rs⟩, q => by
    obtain ⟨v, hv, r⟩ := Rels.get rs (by simpa using q)
    exact ⟨v, by rw [e]; simpa using hv, r⟩
theorem Rels.append {X h n} : ∀ {cs ds : List CV} {vs us : List Value}, Rels X h n cs vs → Rels X h n ds us → Rels X h n (cs ++ ds) (vs ++ us)
  | [], _, _, _, r, q => by rw [show _ = ([] : List Value) from r]; exact q
  | _ :: _, _, _, _, ⟨v, vs', e, r, rs⟩, q => ⟨v, vs' ++ _, by rw [e]; rfl, r, Rels.append rs q⟩
theorem Rels.one {X h n} {c : CV} {v : Value} (r : Rel X h n c v) : Rels X h n [c] [v] := ⟨v, [], rfl, r, rfl⟩

/-- what a piece of the run leaves as it was: all but W -/
noncomputable def KpB (W : List Addr) (s s' : Shared) : Prop := ∃ h' tk', s' = { s with heap := h', toks := tk' } ∧ (∀ b o, b ∉ W → s.heap.get? b = some o → h'.get? b = some o) ∧ (∀ b, Live s.heap b → Live h' b) ∧ s.toks ≤ tk'
abbrev Kp : Shared → Shared → Prop := KpB []
theorem KpB.refl {W s} : KpB W s s := ⟨s.heap, s.toks, rfl, fun _ _ _ e => e, fun _ e => e, Nat.le_refl _⟩
theorem KpB.trans {W s s' s''} (x : KpB W s s') (y : KpB W s' s'') : KpB W s s'' := by
  obtain ⟨h1, t1, rfl, a1, b1, c1⟩ := x
  obtain ⟨h2, t2, rfl, a2, b2, c2⟩ := y
  exact ⟨h2, t2, rfl, fun b o hb e => a2 b o hb (a1 b o hb e), fun b e => b2 b (b1 b e), Nat.le_trans c1 c2⟩
theorem KpB.weak {W V s s'} (x : KpB W s s') (h : ∀ a ∈ W, a ∈ V) : KpB V s s' := by
  obtain ⟨h1, t1, rfl, a1, b1, c1⟩ := x
  exact ⟨h1, t1, rfl, fun b o hb e => a1 b o (fun q => hb (h b q)) e, b1, c1⟩
/-- addresses that were not alive before do not count -/
theorem KpB.drop {W V s s'} (x : KpB W s s') (h : ∀ a ∈ W, a ∈ V ∨ ¬ Live s.heap a) : KpB V s s' := by
  obtain ⟨h1, t1, rfl, a1, b1, c1⟩ := x
  refine ⟨h1, t1, rfl, fun b o hb e => a1 b o (fun q => ?_) e, b1, c1⟩
  rcases h b q with r | r
  · exact hb r
  · exact r ⟨o, e⟩
theorem KpB.live {W s s'} (x : KpB W s s') {a : Addr} (h : Live s.heap a) : Live s'.heap a := by
  obtain ⟨h1, t1, rfl, a1, b1, c1⟩ := x
  exact b1 a h
theorem KpB.toks {W s s'} (x : KpB W s s') : s.toks ≤ s'.toks := by
  obtain ⟨h1, t1, rfl, a1, b1, c1⟩ := x
  exact c1
theorem KpB.get {W s s'} (x : KpB W s s') {a : Addr} {o : Obj} (ha : a ∉ W) (h : s.heap.get? a = some o) : s'.heap.get? a = some o := by
  obtain ⟨h1, t1, rfl, a1, b1, c1⟩ := x
  exact a1 a o ha h
theorem Kp.get {s s'} (x : Kp s s') {a : Addr} {o : Obj} (h : s.heap.get? a = some o) : s'.heap.get? a = some o := KpB.get x (by simp) h
theorem Kp.of {s : Shared} {h' : Heap} {tk : Nat} (hk : ∀ b o, s.heap.get? b = some o → h'.get? b = some o) (ht : s.toks ≤ tk) : Kp s { s with heap := h', toks := tk } :=
  ⟨h', tk, rfl, fun b o _ e => hk b o e, fun b ⟨o, e⟩ => ⟨o, hk b o e⟩, ht⟩
theorem Kp.toksOnly {s : Shared} {tk : Nat} (ht : s.toks ≤ tk) : Kp s { s with toks := tk } := ⟨s.heap, tk, rfl, fun _ _ _ e => e, fun _ e => e, ht⟩
theorem not_live_size {h : Heap} : ¬ Live h h.objs.size := fun ⟨_, e⟩ => Nat.lt_irrefl _ (Heap.lt_size e)
theorem Kp.push {s : Shared} {o : Obj} : Kp s { s with heap := s.heap.push o } := ⟨_, s.toks, rfl, fun _ _ _ e => Heap.get?_push_of_some _ e, fun _ ⟨o', e⟩ => ⟨o', Heap.get?_push_of_some _ e⟩, Nat.le_refl _⟩

theorem Rel.kp {X c v s s'} (r : Rel X s.heap s.toks c v) (k : KpB X s s') : Rel X s'.heap s'.toks c v := by
  obtain ⟨h1, t1, rfl, a1, b1, c1⟩ := k
  exact r.move (fun _ _ h => h) a1 c1
theorem Rels.kp {X c v s s'} (r : Rels X s.heap s.toks c v) (k : KpB X s s') : Rels X s'.heap s'.toks c v := by
  obtain ⟨h1, t1, rfl, a1, b1, c1⟩ := k
  exact r.move (fun _ _ h => h) a1 c1
theorem Kp.any {W s s'} (k : Kp s s') : KpB W s s' := k.weak (by simp)

/-- the room below the limits -/
structure Room (A : Around) (k : Nat) : Prop where
  handled : A.handled = none
  depth : A.depth + k < 600
  units : A.units + 20 * k < 9000
theorem Room.le {A k j} (r : Room A k) (h : j ≤ k) : Room A j := ⟨r.handled, by have := r.depth; omega, by have := r.units; omega⟩
theorem Room.deeper {A k env} (r : Room A (k + 1)) : Room (A.deeper env) k := ⟨r.handled, by have := r.depth; show A.depth + 1 + k < 600; omega, by have := r.units; show A.units + 3 + 20 * k < 9000; omega⟩
theorem Room.in1 {A k} (r : Room A (k + 1)) : Room A.in1 k := ⟨r.handled, by have := r.depth; show A.depth + k < 600; omega, by have := r.units; show A.units + 1 + 20 * k < 9000; omega⟩

/-- the state keeps the ground heap hB -/
structure Base (hB : Heap) (s : Shared) : Prop where
  keep : ∀ b o, hB.get? b = some o → s.heap.get? b = some o
  toks : 0 < s.toks
noncomputable def XOk (hB : Heap) (X : List Addr) (s : Shared) : Prop := ∀ x ∈ X, hB.get? x = none ∧ Live s.heap x
theorem Base.kp {hB X s s'} (b : Base hB s) (x : XOk hB X s) (k : KpB X s s') : Base hB s' := by
  refine ⟨fun a o e => k.get (fun q => ?_) (b.keep a o e), Nat.lt_of_lt_of_le b.toks k.toks⟩
  rw [(x a q).1] at e; cases e
theorem Base.kp0 {hB s s'} (b : Base hB s) (k : Kp s s') : Base hB s' := ⟨fun a o e => k.get (b.keep a o e), Nat.lt_of_lt_of_le b.toks k.toks⟩
theorem XOk.kp {hB X W s s'} (x : XOk hB X s) (k : KpB W s s') : XOk hB X s' := fun a ha => ⟨(x a ha).1, k.live (x a ha).2⟩
theorem XOk.nil {hB s} : XOk hB [] s := fun _ h => nomatch h
theorem XOk.fresh {hB X s s'} (b : Base hB s) (x : XOk hB X s') {a : Addr} (h : ¬ Live s.heap a) (h' : Live s'.heap a) : XOk hB (a :: X) s' := fun y hy => by
  rcases List.mem_cons.mp hy with rfl | hy
  · refine ⟨?_, h'⟩
    cases e : hB.get? y with
    | none => rfl
    | some o => exact absurd ⟨o, b.keep _ _ e⟩ h
  · exact x y hy

/-- the frame's names -/
noncomputable def Holds (env : Env) (h : Heap) (x : Str) (v : Value) : Prop :=
  (env.kindOf x = some .local ∧ ∃ m, h.Ns env.locals m ∧ m x = some v) ∨
  ((env.kindOf x = some .cell ∨ env.kindOf x = some .free) ∧ ∃ c, env.cells.lookup x = some c ∧ h.IsCell c (some v))
theorem Holds.keeps {env h h' x v} (r : Holds env h x v) (hk : ∀ b o, h.get? b = some o → h'.get? b = some o) : Holds env h' x v := by
  rcases r with ⟨a, m, n, e⟩ | ⟨a, c, e, r⟩
  · exact .inl ⟨a, m, n.keeps hk, e⟩
  · exact .inr ⟨a, c, e, r.keeps hk⟩

abbrev Sig := List (Str × CV)
noncomputable def St (X : List Addr) (env : Env) (σ : Sig) (s : Shared) : Prop := ∀ x c, σ.lookup x = some c → ∃ v, Holds env s.heap x v ∧ Rel X s.heap s.toks c v
theorem St.kp {X env σ s s'} (t : St X env σ s) (k : Kp s s') : St X env σ s' := fun x c e => by
  obtain ⟨v, hv, r⟩ := t x c e
  exact ⟨v, hv.keeps fun b o q => k.get q, r.kp k.any⟩

structure Own (X : List Addr) (env : Env) (s : Shared) : Prop where
  kind : env.scope.kind = .function
  globals : env.globals = mainGlobals
  builtins : env.builtins = builtinsNs
  ns : ∃ m, s.heap.Ns env.locals m
  locX : env.locals ∈ X
  cell : ∀ x c, env.cells.lookup x = some c → ∃ v, s.heap.IsCell c v
  cellX : ∀ x c, env.cells.lookup x = some c → c ∈ X
  apart : ∀ x y c, env.cells.lookup x = some c → env.cells.lookup y = some c → x = y
theorem Own.kp {X env s s'} (o : Own X env s) (k : Kp s s') : Own X env s' :=
  { o with
    ns := let ⟨m, h⟩ := o.ns; ⟨m, h.keeps fun b o q => k.get q⟩
    cell := fun x c e => let ⟨v, h⟩ := o.cell x c e; ⟨v, h.keeps fun b o q => k.get q⟩ }

structure Ok (hB : Heap) (X : List Addr) (env : Env) (σ : Sig) (s : Shared) : Prop where
  base : Base hB s
  xok : XOk hB X s
  own : Own X env s
  st : St X env σ s
theorem Ok.kp {hB X env σ s s'} (o : Ok hB X env σ s) (k : Kp s s') : Ok hB X env σ s' := ⟨o.base.kp0 k, o.xok.kp k, o.own.kp k, o.st.kp k⟩

/-- what is known of the text's top -/
structure Glob (hB : Heap) (mg mb : Str → Option Value) : Prop where
  g : hB.Ns mainGlobals mg
  b : hB.Ns builtinsNs mb
  nolimit : hB.NoLimit
  builtins : ∀ x : Str, x ≠ "__name__" → mb x = bootBuiltins x

section
variable (prog : Program) (w : World) (hB : Heap)

/-- an expression yields a clean value -/
structure Ev (k : Nat) (env : Env) (σ : Sig) (e : Expr) (c : CV) : Prop where
  run : ∀ X A E s, Room A k → Ok hB X env σ s →
  wpAny (model prog w) A (eval e env) (fun v s' => Rel X s'.heap s'.toks c v ∧ Kp s s') E s
/-- a test comes out as b -/
structure Tr (k : Nat) (env : Env) (σ : Sig) (e : Expr) (b : Bool) : Prop where
  run : ∀ X A E s, Room A k → Ok hB X env σ s →
  wpAny (model prog w) A (isTrue e env (eval e env)) (fun b' s' => b' = b ∧ Kp s s') E s
end
end Mine

namespace Mine
open PySem PySem.W PySem.Calls PyProof.Rows

section
variable {prog : Program} {w : World} {hB : Heap} {k : Nat} {env : Env} {σ : Sig}

theorem lookup_hd {x : Str} {c : CV} {σ : Sig} : List.lookup x ((x, c) :: σ) = some c := by simp [List.lookup]
theorem lookup_tl {x y : Str} {c d : CV} {σ : Sig} (h : (x == y) = false) (r : List.lookup x σ = some c) : List.lookup x ((y, d) :: σ) = some c := by
  rw [List.lookup_cons, h]; exact r

theorem ev_name {x : Str} {pos : Pos} {c : CV} (h : σ.lookup x = some c) (hd : (x == ("__debug__" : Str)) = false) (hc : (x == ("__classdict__" : Str)) = false) : (Ev prog w hB) k env σ (.Name x pos) c := by
  refine ⟨?_⟩
  intro X A E s hr ok
  obtain ⟨v, hv, r⟩ := ok.st x c h
  refine wpAny_Name ?_ hd
  rcases hv with ⟨hk, m, hn, hm⟩ | ⟨hk | hk, cl, hcl, hcell⟩
  · exact wpAny_loadName_local ok.own.kind hk hn hm ⟨r, KpB.refl⟩
  · exact wpAny_loadName_cell ok.own.kind hk hcl hcell ⟨r, KpB.refl⟩
  · exact wpAny_loadName_free ok.own.kind hk hcl hcell ⟨r, KpB.refl⟩ hc

theorem ev_int {i : Int} {n : Nat} {pos : Pos} : (Ev prog w hB) k env σ (.Constant (.int i) n pos) (.int i) := by
  refine ⟨?_⟩
  intro X A E s hr ok
  exact wpAny_Constant_int ⟨⟨s.toks, rfl⟩, Kp.toksOnly (Nat.le_succ _)⟩
theorem ev_str {x : Str} {n : Nat} {pos : Pos} : (Ev prog w hB) k env σ (.Constant (.str x) n pos) (.str x) := by
  refine ⟨?_⟩
  intro X A E s hr ok
  exact Constant_str ⟨⟨s.toks, rfl⟩, Kp.toksOnly (Nat.le_succ _)⟩
theorem ev_bool {b : Bool} {n : Nat} {pos : Pos} : (Ev prog w hB) k env σ (.Constant (.bool b) n pos) (.bool b) := by
  refine ⟨?_⟩
  intro X A E s hr ok
  exact wpAny_pure ⟨rfl, KpB.refl⟩
theorem ev_none {n : Nat} {pos : Pos} : (Ev prog w hB) k env σ (.Constant .none n pos) .none := by
  refine ⟨?_⟩
  intro X A E s hr ok
  exact wpAny_pure ⟨rfl, KpB.refl⟩

theorem ev_weak {e : Expr} {i : Int} (h : (Ev prog w hB) k env σ e (.tint i)) : (Ev prog w hB) k env σ e (.int i) := by
  refine ⟨?_⟩
  intro X A E s hr ok
  exact wpAny_mono (h.run X A E s hr ok) (fun v s' q => ⟨let ⟨t, e, _⟩ := q.1; ⟨t, e⟩, q.2⟩) fun _ _ x => x
/-- one evaluated after the other -/
theorem ev_two {e f : Expr} {c d : CV} (h1 : (Ev prog w hB) k env σ e c) (h2 : (Ev prog w hB) k env σ f d) {X A E s} (hr : Room A k) (ok : Ok hB X env σ s) {Q : Value → Value → Shared → Prop}
    (h : ∀ v u s', Rel X s'.heap s'.toks c v → Rel X s'.heap s'.toks d u → Kp s s' → Q v u s') :
    wpAny (model prog w) A (eval e env) (fun v s₁ => wpAny (model prog w) A (eval f env) (fun u s₂ => Q v u s₂) E s₁) E s := by
  refine wpAny_mono (h1.run X A E s hr ok) (fun v s₁ q => ?_) fun _ _ x => x
  refine wpAny_mono (h2.run X A E s₁ hr (ok.kp q.2)) (fun u s₂ q2 => ?_) fun _ _ x => x
  exact h v u s₂ (q.1.kp q2.2.any) q2.1 (q.2.trans q2.2)

/-- an operator on two clean values -/
structure OpOk (prog : Program) (w : World) (hB : Heap) (t : Value → Value → Sem Value) (c d r : CV) : Prop where
  run : ∀ X A E s v u, A.handled = none → A.units < cLine → Base hB s → Rel X s.heap s.toks c v → Rel X s.heap s.toks d u →
  wpAny (model prog w) A (t v u) (fun x s' => Rel X s'.heap s'.toks r x ∧ Kp s s') E s

theorem room_units {A k} (r : Room A k) : A.units < cLine := by have := r.units; show A.units < 9900; omega

theorem ev_bin {l r : Expr} {op : Operator} {pos : Pos} {c d q : CV} (o : OpOk prog w hB (binaryOp op) c d q) (h1 : (Ev prog w hB) k env σ l c) (h2 : (Ev prog w hB) k env σ r d) : (Ev prog w hB) k env σ (.BinOp l op r pos) q := by
  refine ⟨?_⟩
  intro X A E s hr ok
  refine wpAny_BinOp (ev_two h1 h2 hr ok fun v u s' r1 r2 kp => ?_)
  exact wpAny_mono (o.run X A E s' v u hr.handled (room_units hr) (ok.base.kp0 kp) r1 r2) (fun x s'' y => ⟨y.1, kp.trans y.2⟩) fun _ _ x => x

theorem ev_cmp {l r : Expr} {op : CmpOp} {pos : Pos} {c d q : CV} (o : OpOk prog w hB (compareOp op) c d q) (h1 : (Ev prog w hB) k env σ l c) (h2 : (Ev prog w hB) k env σ r d)
    (hm : behindInMarks op r = false) : (Ev prog w hB) k env σ (.Compare l [op] [r] pos) q := by
  refine ⟨?_⟩
  intro X A E s hr ok
  refine wpAny_Compare1 (ev_two h1 h2 hr ok fun v u s' r1 r2 kp => ?_) hm
  exact wpAny_mono (o.run X A E s' v u hr.handled (room_units hr) (ok.base.kp0 kp) r1 r2) (fun x s'' y => ⟨y.1, kp.trans y.2⟩) fun _ _ x => x
theorem tr_cmp {l r : Expr} {op : CmpOp} {pos : Pos} {c d : CV} {b : Bool} (o : OpOk prog w hB (compareOp op) c d (.bool b)) (h1 : (Ev prog w hB) k env σ l c) (h2 : (Ev prog w hB) k env σ r d)
    (hm : behindInMarks op r = false) : (Tr prog w hB) k env σ (.Compare l [op] [r] pos) b := by
  refine ⟨?_⟩
  intro X A E s hr ok
  refine wpAny_isTrue_Compare1 (ev_two h1 h2 hr ok fun v u s' r1 r2 kp => ?_) hm
  refine wpAny_mono (o.run X A E s' v u hr.handled (room_units hr) (ok.base.kp0 kp) r1 r2) (fun x s'' y => ?_) fun _ _ x => x
  rw [show x = _ from y.1]
  exact wpAny_truthy_bool ⟨rfl, kp.trans y.2⟩

-- ints
theorem op_add {i j : Int} : OpOk prog w hB (binaryOp .Add) (.int i) (.int j) (.int (i + j)) := by
  refine ⟨?_⟩
  rintro X A E s v u hh hu hb ⟨t, rfl⟩ ⟨t', rfl⟩
  exact add_int ⟨⟨_, rfl⟩, Kp.toksOnly (Nat.le_succ _)⟩
theorem op_sub {i j : Int} : OpOk prog w hB (binaryOp .Sub) (.int i) (.int j) (.int (i - j)) := by
  refine ⟨?_⟩
  rintro X A E s v u hh hu hb ⟨t, rfl⟩ ⟨t', rfl⟩
  exact sub_int ⟨⟨_, rfl⟩, Kp.toksOnly (Nat.le_succ _)⟩
theorem op_mul {i j : Int} (hm : IntMulOk i j) : OpOk prog w hB (binaryOp .Mult) (.int i) (.int j) (.int (i * j)) := by
  refine ⟨?_⟩
  rintro X A E s v u hh hu hb ⟨t, rfl⟩ ⟨t', rfl⟩
  exact mul_int ⟨⟨_, rfl⟩, Kp.toksOnly (Nat.le_succ _)⟩ hm
theorem op_fdiv {i j : Int} (hj : j ≠ 0) (hp : Builtin.divisionGoesByPylong i j = false) : OpOk prog w hB (binaryOp .FloorDiv) (.int i) (.int j) (.int (i.fdiv j)) := by
  refine ⟨?_⟩
  rintro X A E s v u hh hu hb ⟨t, rfl⟩ ⟨t', rfl⟩
  exact floordiv_int hj ⟨⟨_, rfl⟩, Kp.toksOnly (Nat.le_succ _)⟩ (.inl hp)
theorem op_mod {i j : Int} (hj : j ≠ 0) : OpOk prog w hB (binaryOp .Mod) (.int i) (.int j) (.int (i.fmod j)) := by
  refine ⟨?_⟩
  rintro X A E s v u hh hu hb ⟨t, rfl⟩ ⟨t', rfl⟩
  exact mod_int' hj ⟨⟨_, rfl⟩, Kp.toksOnly (Nat.le_succ _)⟩
theorem op_pow {i j : Int} (h0 : 0 ≤ j) (h1 : j ≤ 1000000) (ha : i.natAbs < 2 ^ 64) : OpOk prog w hB (binaryOp .Pow) (.int i) (.int j) (.int (i ^ j.toNat)) := by
  refine ⟨?_⟩
  rintro X A E s v u hh hu hb ⟨t, rfl⟩ ⟨t', rfl⟩
  exact pow_int_small h0 h1 ha ⟨⟨_, rfl⟩, Kp.toksOnly (Nat.le_succ _)⟩
theorem op_and {i j : Int} : OpOk prog w hB (binaryOp .BitAnd) (.int i) (.int j) (.tint (Builtin.bitAnd i j)) := by
  refine ⟨?_⟩
  rintro X A E s v u hh hu hb ⟨t, rfl⟩ ⟨t', rfl⟩
  exact and_int ⟨⟨_, rfl, hb.toks, Nat.lt_succ_self _⟩, Kp.toksOnly (Nat.le_succ _)⟩
theorem op_shr {i j : Int} (h0 : 0 ≤ j) : OpOk prog w hB (binaryOp .RShift) (.int i) (.int j) (.int (i.fdiv (2 ^ j.toNat))) := by
  refine ⟨?_⟩
  rintro X A E s v u hh hu hb ⟨t, rfl⟩ ⟨t', rfl⟩
  exact rshift_int h0 ⟨⟨_, rfl⟩, Kp.toksOnly (Nat.le_succ _)⟩
noncomputable def b2i' (b : Bool) : Int := if b then 1 else 0
theorem op_subB {p q : Bool} : OpOk prog w hB (binaryOp .Sub) (.bool p) (.bool q) (.int (b2i' p - b2i' q)) := by
  refine ⟨?_⟩
  rintro X A E s v u hh hu hb rfl rfl
  exact sub_bool ⟨⟨_, rfl⟩, Kp.toksOnly (Nat.le_succ _)⟩

theorem op_eq {i j : Int} : OpOk prog w hB (compareOp .Eq) (.int i) (.int j) (.bool (i == j)) := by
  refine ⟨?_⟩
  rintro X A E s v u hh hu hb ⟨t, rfl⟩ ⟨t', rfl⟩
  exact eq_int ⟨rfl, KpB.refl⟩
theorem op_ne {i j : Int} : OpOk prog w hB (compareOp .NotEq) (.int i) (.int j) (.bool (i != j)) := by
  refine ⟨?_⟩
  rintro X A E s v u hh hu hb ⟨t, rfl⟩ ⟨t', rfl⟩
  exact ne_int ⟨rfl, KpB.refl⟩
theorem op_lt {i j : Int} : OpOk prog w hB (compareOp .Lt) (.int i) (.int j) (.bool (decide (i < j))) := by
  refine ⟨?_⟩
  rintro X A E s v u hh hu hb ⟨t, rfl⟩ ⟨t', rfl⟩
  exact lt_int ⟨rfl, KpB.refl⟩
theorem op_gt {i j : Int} : OpOk prog w hB (compareOp .Gt) (.int i) (.int j) (.bool (decide (j < i))) := by
  refine ⟨?_⟩
  rintro X A E s v u hh hu hb ⟨t, rfl⟩ ⟨t', rfl⟩
  exact gt_int ⟨rfl, KpB.refl⟩
theorem op_ge {i j : Int} : OpOk prog w hB (compareOp .GtE) (.int i) (.int j) (.bool (decide (j ≤ i))) := by
  refine ⟨?_⟩
  rintro X A E s v u hh hu hb ⟨t, rfl⟩ ⟨t', rfl⟩
  exact ge_int ⟨rfl, KpB.refl⟩
theorem op_eqS {i j : Str} : OpOk prog w hB (compareOp .Eq) (.str i) (.str j) (.bool (i == j)) := by
  refine ⟨?_⟩
  rintro X A E s v u hh hu hb ⟨t, rfl⟩ ⟨t', rfl⟩
  exact eq_str ⟨rfl, KpB.refl⟩
theorem op_neS {i j : Str} : OpOk prog w hB (compareOp .NotEq) (.str i) (.str j) (.bool (i != j)) := by
  refine ⟨?_⟩
  rintro X A E s v u hh hu hb ⟨t, rfl⟩ ⟨t', rfl⟩
  exact ne_str ⟨rfl, KpB.refl⟩
theorem op_ltS {i j : Str} : OpOk prog w hB (compareOp .Lt) (.str i) (.str j) (.bool (i.cps.toList < j.cps.toList)) := by
  refine ⟨?_⟩
  rintro X A E s v u hh hu hb ⟨t, rfl⟩ ⟨t', rfl⟩
  exact lt_str ⟨rfl, KpB.refl⟩
theorem op_gtS {i j : Str} : OpOk prog w hB (compareOp .Gt) (.str i) (.str j) (.bool (j.cps.toList < i.cps.toList)) := by
  refine ⟨?_⟩
  rintro X A E s v u hh hu hb ⟨t, rfl⟩ ⟨t', rfl⟩
  exact P.gt_str ⟨rfl, KpB.refl⟩

-- branches
theorem ev_if {t a b : Expr} {pos : Pos} {p : Bool} {c d : CV} (h : (Tr prog w hB) k env σ t p) (h1 : p = true → (Ev prog w hB) k env σ a c) (h2 : p = false → (Ev prog w hB) k env σ b d) : (Ev prog w hB) k env σ (.IfExp t a b pos) (if p then c else d) := by
  refine ⟨?_⟩
  intro X A E s hr ok
  show wpAny _ _ (do if ← isTrue t env (eval t env) then eval a env else eval b env) _ _ s
  refine wpAny_bind (wpAny_mono (h.run X A E s hr ok) (fun b' s' q => ?_) fun _ _ x => x)
  obtain ⟨rfl, kp⟩ := q
  cases b' with
  | true => exact wpAny_mono ((h1 rfl).run X A E s' hr (ok.kp kp)) (fun x s'' y => ⟨y.1, kp.trans y.2⟩) fun _ _ x => x
  | false => exact wpAny_mono ((h2 rfl).run X A E s' hr (ok.kp kp)) (fun x s'' y => ⟨y.1, kp.trans y.2⟩) fun _ _ x => x
theorem ev_if_i {t a b : Expr} {pos : Pos} {p : Bool} {c d : Int} (h : (Tr prog w hB) k env σ t p) (h1 : p = true → (Ev prog w hB) k env σ a (.int c)) (h2 : p = false → (Ev prog w hB) k env σ b (.int d)) : (Ev prog w hB) k env σ (.IfExp t a b pos) (.int (if p then c else d)) := by
  have := ev_if (pos := pos) h h1 h2
  cases p <;> exact this
theorem ev_if_s {t a b : Expr} {pos : Pos} {p : Bool} {c d : Str} (h : (Tr prog w hB) k env σ t p) (h1 : p = true → (Ev prog w hB) k env σ a (.str c)) (h2 : p = false → (Ev prog w hB) k env σ b (.str d)) : (Ev prog w hB) k env σ (.IfExp t a b pos) (.str (if p then c else d)) := by
  have := ev_if (pos := pos) h h1 h2
  cases p <;> exact this
end
end Mine

namespace Mine
open PySem PySem.W PySem.Calls PyProof.Rows

section
variable {prog : Program} {w : World} {hB : Heap} {k : Nat} {env : Env} {σ : Sig} {mg mb : Str → Option Value}

/-- arguments by place, one behind the other -/
structure Evs (prog : Program) (w : World) (hB : Heap) (k : Nat) (env : Env) (σ : Sig) (es : List Expr) (cs : List CV) : Prop where
  run : ∀ pos X A E s, Room A k → Ok hB X env σ s →
  wpAny (model prog w) A (spliced (backTo pos (starEach es env))) (fun vs s' => Rels X s'.heap s'.toks cs vs ∧ Kp s s') E s

theorem starEach_cons {e : Expr} {rest : List Expr} (h : isStarred e = false) : starEach (e :: rest) env = (false, eval e env) :: starEach rest env := by
  cases e <;> first | rfl | cases h
theorem evs_nil : (Evs prog w hB) k env σ [] [] := by
  refine ⟨?_⟩
  intro pos X A E s hr ok
  exact spliced_nil ⟨rfl, KpB.refl⟩
theorem evs_cons {e : Expr} {rest : List Expr} {c : CV} {cs : List CV} (h : (Ev prog w hB) k env σ e c) (hs : (Evs prog w hB) k env σ rest cs) (hn : isStarred e = false) : (Evs prog w hB) k env σ (e :: rest) (c :: cs) := by
  refine ⟨?_⟩
  intro pos X A E s hr ok
  rw [starEach_cons hn]
  show wpAny _ _ (spliced ((false, eval e env) :: backTo pos (starEach rest env))) _ _ s
  refine spliced_cons (wpAny_mono (h.run X A E s hr ok) (fun v s₁ q => ?_) fun _ _ x => x)
  refine wpAny_mono (hs.run pos X A E s₁ hr (ok.kp q.2)) (fun vs s₂ q2 => ?_) fun _ _ x => x
  exact ⟨⟨v, vs, rfl, q.1.kp q2.2.any, q2.1⟩, q.2.trans q2.2⟩

theorem backTo_plain {pos : Pos} : ∀ {es : List Expr}, es.all (fun e => !isStarred e) = true → (backTo pos (starEach es env)).any (·.1) = false
  | [], _ => rfl
  | e :: rest, h => by
    rw [List.all_cons, Bool.and_eq_true, Bool.not_eq_true'] at h
    rw [starEach_cons h.1]
    show (false || (backTo pos (starEach rest env)).any (·.1)) = false
    rw [backTo_plain h.2]; rfl
theorem evalArgs_some {M : Model} {A : Around} {E : Value → Shared → Prop} {s : Shared} {f : Value} {pos : Pos} {Q : Args → Shared → Prop} {e : Expr} {rest : List Expr} (hs : isStarred e = false)
    (h : wpAny M A (spliced (backTo pos (starEach (e :: rest) env))) (fun vs s' => Q ⟨vs, []⟩ s') E s) : wpAny M A (evalArgs f true (backTo pos (starEach (e :: rest) env)) []) Q E s := by
  rw [starEach_cons hs] at h ⊢
  exact evalArgs_plain h

/-- a def of the text: what a call of it gives -/
noncomputable def Fn (prog : Program) (w : World) (hB : Heap) (mg : Str → Option Value) (r : Nat) (f : Str) (args : List CV) (c : CV) : Prop :=
  ∃ a o fd, mg f = some (.ref a) ∧ hB.get? a = some o ∧ o.data = .func fd ∧ ∀ X A E s vs, Room A r → Base hB s → XOk hB X s → Rels X s.heap s.toks args vs →
    wpAny (model prog w) A (call (.ref a) vs) (fun v s' => Rel X s'.heap s'.toks c v ∧ Kp s s') E s

theorem ev_global {x : Str} {pos : Pos} {v : Value} {X A E s} {Q : Value → Shared → Prop} (G : Glob hB mg mb) (ok : Ok hB X env σ s) (hm : mg x = some v) (hx : env.kindOf x = some .globalImplicit) (hd : (x == ("__debug__" : Str)) = false) (h : Q v s) :
    wpAny (model prog w) A (eval (.Name x pos) env) Q E s :=
  Name_function_global ok.own.kind hx (loadGlobal_global (by rw [ok.own.globals]; exact G.g.keeps ok.base.keep) hm h) hd
theorem ev_builtin {x : Str} {pos : Pos} {v : Value} {X A E s} {Q : Value → Shared → Prop} (G : Glob hB mg mb) (ok : Ok hB X env σ s) (hm : mg x = none) (hv : bootBuiltins x = some v) (hn : x ≠ "__name__")
    (hx : env.kindOf x = some .globalImplicit) (hd : (x == ("__debug__" : Str)) = false) (h : Q v s) :
    wpAny (model prog w) A (eval (.Name x pos) env) Q E s :=
  Name_function_global ok.own.kind hx (loadGlobal_builtin (by rw [ok.own.globals]; exact G.g.keeps ok.base.keep) hm (by rw [ok.own.builtins]; exact G.b.keeps ok.base.keep) ((G.builtins x hn).trans hv) h) hd

theorem ev_call {f : Str} {p pos : Pos} {e : Expr} {rest : List Expr} {args : List CV} {c : CV} {r : Nat} (G : Glob hB mg mb) (F : (Fn prog w hB mg) r f args c) (hr' : r ≤ k) (h : (Evs prog w hB) k env σ (e :: rest) args)
    (hs : isStarred e = false) (hx : env.kindOf f = some .globalImplicit) (hd : (f == ("__debug__" : Str)) = false) : (Ev prog w hB) k env σ (.Call (.Name f p) (e :: rest) [] pos) c := by
  refine ⟨?_⟩
  intro X A E s hr ok
  obtain ⟨a, o, fd, hm, ho, hdt, spec⟩ := F
  refine wpAny_Call_Name_kw (ev_global G ok hm hx hd ?_)
  refine callWith_function (o := o) (fd := fd) (evalArgs_some hs (wpAny_mono (h.run pos X A E s hr ok) (fun vs s₁ q => ?_) fun _ _ x => x))
  have b1 := ok.base.kp0 q.2
  refine ⟨⟨b1.keep _ _ ho, hdt⟩, ?_⟩
  exact wpAny_mono (spec X A E s₁ vs (hr.le hr') b1 (ok.xok.kp q.2) q.1) (fun v s₂ q2 => ⟨q2.1, q.2.trans q2.2⟩) fun _ _ x => x

/-- a built-in: what a call of it gives -/
structure Bi (prog : Program) (w : World) (hB : Heap) (f : Value) (args : List CV) (c : CV) : Prop where
  run : ∀ X A E s vs, Room A 1 → Base hB s → Rels X s.heap s.toks args vs → XOk hB X s →
    wpAny (model prog w) A (call f vs) (fun v s' => Rel X s'.heap s'.toks c v ∧ Kp s s') E s

noncomputable def isMachine : Value → Bool
  | .builtin _ => true
  | .type _ => true
  | _ => false
theorem callWith_machine {M : Model} {A : Around} {E : Value → Shared → Prop} {s : Shared} {pos : Pos} {f : Value} {first : List Value} {args : List (Bool × Sem Value)} {Q : Value → Shared → Prop} (hf : isMachine f = true)
    (hplain : args.any (·.1) = false) (h : wpAny M A (evalArgs f true args []) (fun a s₁ => wpAny M A (call f (first ++ a.pos) a.kw) Q E s₁) E s) : wpAny M A (callWith pos f first args []) Q E s := by
  cases f with
  | builtin id => exact callWith_builtin hplain h
  | type T => exact PyProof.Rows.callWith_type hplain h
  | _ => cases hf

theorem ev_bi {f : Str} {fv : Value} {p pos : Pos} {e : Expr} {rest : List Expr} {args : List CV} {c : CV} (G : Glob hB mg mb) (B : (Bi prog w hB) fv args c) (hm : mg f = none) (hv : bootBuiltins f = some fv) (hf : isMachine fv = true) (h : (Evs prog w hB) k env σ (e :: rest) args)
    (hk : 1 ≤ k) (hs : (e :: rest).all (fun e => !isStarred e) = true) (hx : env.kindOf f = some .globalImplicit) (hd : (f == ("__debug__" : Str)) = false) (hn : f ≠ "__name__") : (Ev prog w hB) k env σ (.Call (.Name f p) (e :: rest) [] pos) c := by
  refine ⟨?_⟩
  intro X A E s hr ok
  refine wpAny_Call_Name_kw (ev_builtin G ok hm hv hn hx hd ?_)
  have hs1 : isStarred e = false := by
    rw [List.all_cons, Bool.and_eq_true, Bool.not_eq_true'] at hs; exact hs.1
  refine callWith_machine hf (backTo_plain hs) (evalArgs_some hs1 (wpAny_mono (h.run pos X A E s hr ok) (fun vs s₁ q => ?_) fun _ _ x => x))
  exact wpAny_mono (B.run X A E s₁ vs (hr.le hk) (ok.base.kp0 q.2) q.1 (ok.xok.kp q.2)) (fun v s₂ q2 => ⟨q2.1, q.2.trans q2.2⟩) fun _ _ x => x

-- the built-ins
theorem live_list {h : Heap} {a its} (x : h.IsList a its) : Live h a := let ⟨o, e, _⟩ := x; ⟨o, e⟩
theorem bi_len {xs : List CV} (hn : xs.length < 2 ^ 62) : (Bi prog w hB) (.builtin "len") [.list xs] (.int xs.length) := by
  refine ⟨?_⟩
  rintro X A E s vs hr hb ⟨v, vs', rfl, ⟨a, its, rfl, ha, hl, rs⟩, rfl⟩ hx
  have e := rs.length
  rw [Array.length_toList] at e
  refine call_len_list hl.isList (by rw [e]; omega) ⟨?_, ?_⟩
  · exact ⟨_, by rw [e]⟩
  · exact Kp.toksOnly (by omega)
theorem bi_int {i : Int} : (Bi prog w hB) (.type "int") [.int i] (.int i) := by
  refine ⟨?_⟩
  rintro X A E s vs hr hb ⟨v, vs', rfl, ⟨t, rfl⟩, rfl⟩ hx
  exact call_int_int ⟨⟨t, rfl⟩, KpB.refl⟩
theorem bi_str {i : Int} (h : i.natAbs < 1000) : (Bi prog w hB) (.type "str") [.int i] (.str (toString i)) := by
  refine ⟨?_⟩
  rintro X A E s vs hr hb ⟨v, vs', rfl, ⟨t, rfl⟩, rfl⟩ hx
  refine str_of_int_fit (N := 1000) (by split <;> omega) (by decide) fun _ => ⟨⟨_, rfl⟩, Kp.toksOnly (Nat.le_succ _)⟩
theorem bi_ord {c : Nat} : (Bi prog w hB) (.builtin "ord") [.str ⟨#[c]⟩] (.int c) := by
  refine ⟨?_⟩
  rintro X A E s vs hr hb ⟨v, vs', rfl, ⟨t, rfl⟩, rfl⟩ hx
  exact P.ord_of_char ⟨⟨_, rfl⟩, Kp.toksOnly (Nat.le_succ _)⟩
end
end Mine

namespace Mine
open PySem PySem.W PySem.Calls PyProof.Rows

theorem call_cells_T {prog : Program} {w : World} {A : Around} {s : Shared} {R : Result → Shared → Prop} {a : Addr} {o : Obj} {fd : FuncData} {body : List Stmt} {vals : List Value} {binds : List (Str × Value)}
    (hroom : A.depth < recursionLimit) (ho : s.heap.get? a = some o) (hdata : o.data = .func fd) (hlim : s.heap.NoLimit) (hcd : s.heap.CodeRec fd.code fd.qualname)
    (hbody : fd.body = .stmts body) (hbind : bindArgs fd ⟨vals, []⟩ = pure binds) (hclo : fd.closure = [])
    (hkind : ∀ x ∈ binds, fd.scope.names.lookup x.1 = some .local ∨ (fd.scope.names.lookup x.1 = some .cell ∧ ((cellsFrom (s.heap.objs.size + 1) fd.scope.names []).lookup x.1).isSome = true))
    (h : ∀ s₁, s.toks ≤ s₁.toks → InCallC s (callEnvC fd s.heap.objs.size a).locals (bindL (callEnvC fd s.heap.objs.size a).kindOf binds fun _ => none) (callEnvC fd s.heap.objs.size a).cells
        (bindC (callEnvC fd s.heap.objs.size a).kindOf binds fun _ => none) s₁ →
      wpAny (model prog w) (A.deeper (callEnvC fd s.heap.objs.size a)) (execs body (callEnvC fd s.heap.objs.size a)) (fun f s' => R (.ok (.ret (match f with | .ret v => v | _ => .none))) s')
        (fun e s' => wpAny (model prog w) (A.deeper (callEnvC fd s.heap.objs.size a)) (leaving (callEnvC fd s.heap.objs.size a) e) (fun _ s'' => R (.error e) s'') (fun e' s'' => R (.error e') s'') s') s₁)
    (hco : fd.scope.isCoroutine = false) (hgen : fd.scope.isGenerator = false) (hk : fd.scope.kind = .function) :
    codeAny (model prog w) A (.call (.ref a) ⟨vals, []⟩) R s := by
  refine codeAny_call_function hroom ho hdata hco hgen hbody hcd ?_
  rw [hbind, hclo]
  refine wpAny_pure (wpAny_with_toks (Nat.le_refl s.toks) (wpAny_newFunctionEnv_cells hk hkind fun env he s' x => fun htk => ?_))
  subst he
  exact ⟨hlim.keeps x.toInCall.keep, codeAny_func (h s' htk x)⟩

theorem bindL_miss {ko : Str → Option NameKind} {x : Str} : ∀ {r : List (Str × Value)} {m : Str → Option Value}, x ∉ r.map (·.1) → bindL ko r m x = m x
  | [], _, _ => rfl
  | (n, v) :: r, m, h => by
    rw [List.map_cons, List.mem_cons, not_or] at h
    unfold bindL
    rw [bindL_miss h.2]
    split
    · simp [h.1]
    · rfl
theorem bindL_hit {ko : Str → Option NameKind} {x : Str} {v : Value} (hk : ko x = some .local) : ∀ {r : List (Str × Value)} {m : Str → Option Value}, (r.map (·.1)).Nodup → (x, v) ∈ r → bindL ko r m x = some v
  | (n, u) :: r, m, hn, h => by
    rw [List.map_cons, List.nodup_cons] at hn
    unfold bindL
    rcases List.mem_cons.mp h with e | h
    · cases e
      rw [bindL_miss hn.1, if_pos hk]; simp
    · exact bindL_hit hk hn.2 h
theorem bindC_miss {ko : Str → Option NameKind} {x : Str} : ∀ {r : List (Str × Value)} {m : Str → Option Value}, x ∉ r.map (·.1) → bindC ko r m x = m x
  | [], _, _ => rfl
  | (n, v) :: r, m, h => by
    rw [List.map_cons, List.mem_cons, not_or] at h
    unfold bindC
    rw [bindC_miss h.2]
    split
    · rfl
    · simp [h.1]
theorem bindC_hit {ko : Str → Option NameKind} {x : Str} {v : Value} (hk : ko x = some .cell) : ∀ {r : List (Str × Value)} {m : Str → Option Value}, (r.map (·.1)).Nodup → (x, v) ∈ r → bindC ko r m x = some v
  | (n, u) :: r, m, hn, h => by
    rw [List.map_cons, List.nodup_cons] at hn
    unfold bindC
    rcases List.mem_cons.mp h with e | h
    · cases e
      rw [bindC_miss hn.1, if_neg (by rw [hk]; decide)]; simp
    · exact bindC_hit hk hn.2 h

theorem zip_lookup {X h n} {x : Str} {c : CV} : ∀ {ps : List Str} {cs : List CV} {vs : List Value}, (ps.zip cs).lookup x = some c → Rels X h n cs vs → ∃ v, (x, v) ∈ ps.zip vs ∧ Rel X h n c v
  | [], _, _, e, _ => by simp at e
  | _ :: _, [], _, e, _ => by simp at e
  | p :: ps, d :: cs, _, e, ⟨v, vs', rfl, r, rs⟩ => by
    rw [List.zip_cons_cons, List.lookup_cons] at e
    cases q : x == p with
    | true =>
      rw [q] at e; cases e
      rw [beq_iff_eq.mp q]
      exact ⟨v, List.mem_cons_self, r⟩
    | false =>
      rw [q] at e
      obtain ⟨u, hu, ru⟩ := zip_lookup e rs
      exact ⟨u, List.mem_cons_of_mem _ hu, ru⟩

noncomputable def ownOf (env : Env) : List Addr := env.locals :: (env.cells.filter fun p => env.cells.lookup p.1 == some p.2).map (·.2)
theorem ownOf_cell {env : Env} {x : Str} {c : Addr} (e : env.cells.lookup x = some c) : c ∈ ownOf env :=
  List.mem_cons_of_mem _ (List.mem_map.mpr ⟨(x, c), List.mem_filter.mpr ⟨mem_of_lookup e, by simpa using e⟩, rfl⟩)
/-- the frame's own addresses that its statements write -/
noncomputable def myOf (env : Env) : List Addr := env.locals :: (env.cells.filter fun p => env.cells.lookup p.1 == some p.2 && decide (env.locals < p.2)).map (·.2)
theorem myOf_cell {env : Env} {x : Str} {c : Addr} (e : env.cells.lookup x = some c) (h : env.locals < c) : c ∈ myOf env :=
  List.mem_cons_of_mem _ (List.mem_map.mpr ⟨(x, c), List.mem_filter.mpr ⟨mem_of_lookup e, by simp [e, h]⟩, rfl⟩)
theorem myOf_own {env : Env} : ∀ a ∈ myOf env, a ∈ ownOf env := fun a h => by
  rcases List.mem_cons.mp h with rfl | h
  · exact List.mem_cons_self
  · obtain ⟨p, hp, rfl⟩ := List.mem_map.mp h
    have := (List.mem_filter.mp hp).2
    rw [Bool.and_eq_true] at this
    exact List.mem_cons_of_mem _ (List.mem_map.mpr ⟨p, List.mem_filter.mpr ⟨(List.mem_filter.mp hp).1, this.1⟩, rfl⟩)
theorem ownOf_sub {X : List Addr} {env : Env} {s : Shared} (o : Own X env s) : ∀ a ∈ ownOf env, a ∈ X := fun a h => by
  rcases List.mem_cons.mp h with rfl | h
  · exact o.locX
  · obtain ⟨p, hp, rfl⟩ := List.mem_map.mp h
    exact o.cellX p.1 p.2 (by simpa using (List.mem_filter.mp hp).2)

section
variable {prog : Program} {w : World} {hB : Heap} {k : Nat} {env : Env} {σ : Sig} {mg mb : Str → Option Value}

/-- a body that returns c -/
structure Run (prog : Program) (w : World) (hB : Heap) (k : Nat) (env : Env) (σ : Sig) (body : List Stmt) (c : CV) : Prop where
  run : ∀ X A E s, Room A k → Ok hB X env σ s →
  wpAny (model prog w) A (execs body env) (fun f s' => (∃ v, f = .ret v ∧ Rel X s'.heap s'.toks c v) ∧ KpB (myOf env) s s') E s
/-- statements that go on, the names as σ' tells -/
structure Steps (prog : Program) (w : World) (hB : Heap) (k : Nat) (env : Env) (σ : Sig) (body : List Stmt) (σ' : Sig) : Prop where
  run : ∀ X A E s, Room A k → Ok hB X env σ s →
  wpAny (model prog w) A (execs body env) (fun f s' => f = .next ∧ Ok hB X env σ' s' ∧ KpB (myOf env) s s') E s
structure Step1 (prog : Program) (w : World) (hB : Heap) (k : Nat) (env : Env) (σ : Sig) (st : Stmt) (σ' : Sig) : Prop where
  run : ∀ X A E s, Room A k → Ok hB X env σ s →
  wpAny (model prog w) A (exec st env) (fun f s' => f = .next ∧ Ok hB X env σ' s' ∧ KpB (myOf env) s s') E s

theorem run_ret {e : Expr} {pos : Pos} {rest : List Stmt} {c : CV} (h : (Ev prog w hB) k env σ e c) : (Run prog w hB) k env σ (.Return (some e) pos :: rest) c := by
  refine ⟨?_⟩
  intro X A E s hr ok
  refine wpAny_execs_cons (wpAny_Return_some (wpAny_mono (h.run X A E s hr ok) (fun v s' q => ?_) fun _ _ x => x))
  exact ⟨⟨v, rfl, q.1⟩, Kp.any q.2⟩
theorem run_step {st : Stmt} {rest : List Stmt} {σ' : Sig} {c : CV} (h : (Step1 prog w hB) k env σ st σ') (hs : (Run prog w hB) k env σ' rest c) : (Run prog w hB) k env σ (st :: rest) c := by
  refine ⟨?_⟩
  intro X A E s hr ok
  refine wpAny_execs_cons (wpAny_mono (h.run X A E s hr ok) (fun f s' q => ?_) fun _ _ x => x)
  obtain ⟨rfl, ok', kp⟩ := q
  exact wpAny_mono (hs.run X A E s' hr ok') (fun f s'' q2 => ⟨q2.1, kp.trans q2.2⟩) fun _ _ x => x
theorem steps_nil : (Steps prog w hB) k env σ [] σ := by
  refine ⟨?_⟩
  intro X A E s hr ok
  exact wpAny_execs_nil ⟨rfl, ok, KpB.refl⟩
theorem steps_cons {st : Stmt} {rest : List Stmt} {σ' σ'' : Sig} (h : (Step1 prog w hB) k env σ st σ') (hs : (Steps prog w hB) k env σ' rest σ'') : (Steps prog w hB) k env σ (st :: rest) σ'' := by
  refine ⟨?_⟩
  intro X A E s hr ok
  refine wpAny_execs_cons (wpAny_mono (h.run X A E s hr ok) (fun f s' q => ?_) fun _ _ x => x)
  obtain ⟨rfl, ok', kp⟩ := q
  exact wpAny_mono (hs.run X A E s' hr ok') (fun f s'' q2 => ⟨q2.1, q2.2.1, kp.trans q2.2.2⟩) fun _ _ x => x
theorem run_if {t : Expr} {body rest : List Stmt} {pos : Pos} {b : Bool} {c : CV} (h : (Tr prog w hB) k env σ t b) (h1 : b = true → (Run prog w hB) k env σ body c) (h2 : b = false → (Run prog w hB) k env σ rest c) : (Run prog w hB) k env σ (.If t body [] pos :: rest) c := by
  refine ⟨?_⟩
  intro X A E s hr ok
  refine wpAny_execs_cons (wpAny_If (wpAny_mono (h.run X A E s hr ok) (fun b' s' q => ?_) fun _ _ x => x))
  obtain ⟨rfl, kp⟩ := q
  cases b' with
  | true =>
    refine wpAny_mono ((h1 rfl).run X A E s' hr (ok.kp kp)) (fun f s'' q2 => ?_) fun _ _ x => x
    obtain ⟨⟨v, rfl, r⟩, kp2⟩ := q2
    exact ⟨⟨v, rfl, r⟩, KpB.trans (Kp.any kp) kp2⟩
  | false =>
    refine wpAny_execs_nil ?_
    exact wpAny_mono ((h2 rfl).run X A E s' hr (ok.kp kp)) (fun f s'' q2 => ⟨q2.1, KpB.trans (Kp.any kp) q2.2⟩) fun _ _ x => x
theorem step_if {t : Expr} {body orelse : List Stmt} {pos : Pos} {b : Bool} {σ' : Sig} (h : (Tr prog w hB) k env σ t b) (h1 : b = true → (Steps prog w hB) k env σ body σ') (h2 : b = false → (Steps prog w hB) k env σ orelse σ') : (Step1 prog w hB) k env σ (.If t body orelse pos) σ' := by
  refine ⟨?_⟩
  intro X A E s hr ok
  refine wpAny_If (wpAny_mono (h.run X A E s hr ok) (fun b' s' q => ?_) fun _ _ x => x)
  obtain ⟨rfl, kp⟩ := q
  cases b' with
  | true => exact wpAny_mono ((h1 rfl).run X A E s' hr (ok.kp kp)) (fun f s'' q2 => ⟨q2.1, q2.2.1, KpB.trans (Kp.any kp) q2.2.2⟩) fun _ _ x => x
  | false => exact wpAny_mono ((h2 rfl).run X A E s' hr (ok.kp kp)) (fun f s'' q2 => ⟨q2.1, q2.2.1, KpB.trans (Kp.any kp) q2.2.2⟩) fun _ _ x => x

noncomputable def envF (d : DefRec) (L a : Addr) (cd : Value) : Env := { scope := d.scope, locals := L, globals := mainGlobals, cells := cellsFrom (L + 1) d.scope.names [], qual := d.name ++ ".<locals>.", func := some a, code := cd, frame := some L, builtins := builtinsNs }

/-- the text's defs as the top has laid them -/
noncomputable def DefsAt (hB : Heap) (mg : Str → Option Value) (ds : List DefRec) : Prop :=
  ∀ d ∈ ds, ∃ a o pm code doc, mg d.name = some (.ref a) ∧ hB.get? a = some o ∧ o.data = .func (docDef d.name d.params d.body d.scope pm code doc) ∧ hB.CodeRec code d.name

theorem cells_notLive {h : Heap} {names : List (Str × NameKind)} {x : Str} {c : Addr} {s : Shared} {L : Addr} {m cm : Str → Option Value} {s₁ : Shared} (I : InCallC s L m (cellsFrom (h.objs.size + 1) names []) cm s₁) (hL : L = h.objs.size) (e : (cellsFrom (h.objs.size + 1) names []).lookup x = some c) : h.objs.size < c :=
  hL ▸ I.above x c (mem_of_lookup e)

theorem fn_of {ds : List DefRec} (D : DefsAt hB mg ds) (G : Glob hB mg mb) {d : DefRec} (hd : d ∈ ds) {cs : List CV} {c : CV} {ps : List Str}
    (hb : ∀ pm code doc (vs : List Value), vs.length = cs.length → bindArgs (docDef d.name d.params d.body d.scope pm code doc) ⟨vs, []⟩ = pure (ps.zip vs))
    (hkind : (ps.all fun x => d.scope.names.lookup x == some .local || (d.scope.names.lookup x == some .cell && ((cellsFrom 0 d.scope.names []).lookup x).isSome)) = true) (hnd : ps.Nodup) (hpl : ps.length = cs.length)
    (hco : d.scope.isCoroutine = false) (hgen : d.scope.isGenerator = false) (hk : d.scope.kind = .function)
    (h : ∀ L a cd, (Run prog w hB) k (envF d L a cd) (ps.zip cs) d.body c) : (Fn prog w hB mg) (k + 1) d.name cs c := by
  obtain ⟨a, o, pm, code, doc, hm, ho, hdt, hcd⟩ := D d hd
  refine ⟨a, o, _, hm, ho, hdt, fun X A E s vs hr hbs hx rs => ?_⟩
  have hlen := rs.length
  have hps : (ps.zip vs).map (·.1) = ps := List.map_fst_zip (by omega)
  have hsub : ∀ x ∈ ps.zip vs, x.1 ∈ ps := fun x hx => (List.of_mem_zip hx).1
  have hndz : ((ps.zip vs).map (·.1)).Nodup := by rw [hps]; exact hnd
  have hkinds : ∀ n, ∀ x ∈ ps.zip vs, d.scope.names.lookup x.1 = some .local ∨ (d.scope.names.lookup x.1 = some .cell ∧ ((cellsFrom n d.scope.names []).lookup x.1).isSome = true) := fun n x hx => by
    have q := List.all_eq_true.mp hkind x.1 (hsub x hx)
    rcases Bool.or_eq_true_iff.mp q with q | q
    · exact .inl (by simpa using q)
    · rw [Bool.and_eq_true] at q
      have q1 : d.scope.names.lookup x.1 = some .cell := by simpa using q.1
      exact .inr ⟨q1, PySem.W.cellsFrom_some _ _ _ (.inl q1)⟩
  refine wpAny_call ?_
  refine call_cells_T (binds := ps.zip vs) (by have := hr.depth; show A.depth < 1000; omega) (hbs.keep _ _ ho) hdt (G.nolimit.keeps hbs.keep) (hcd.keeps hbs.keep) rfl (hb pm code doc vs hlen) rfl (hkinds _) (fun s₁ htk I => ?_) hco hgen hk
  have henv : callEnvC (docDef d.name d.params d.body d.scope pm code doc) s.heap.objs.size a = envF d s.heap.objs.size a code := rfl
  rw [henv] at I ⊢
  have hkeep := I.toInCall.keep
  have hap : ∀ x y c', (envF d s.heap.objs.size a code).cells.lookup x = some c' → (envF d s.heap.objs.size a code).cells.lookup y = some c' → x = y :=
    fun x y c' e1 e2 => name_of_addr I.apart (mem_of_lookup e1) (mem_of_lookup e2)
  have habove : ∀ x c', (envF d s.heap.objs.size a code).cells.lookup x = some c' → s.heap.objs.size < c' := fun x c' e => I.above x c' (mem_of_lookup e)
  have hold : ∀ y ∈ ownOf (envF d s.heap.objs.size a code), s.heap.objs.size ≤ y := fun y hy => by
    rcases List.mem_cons.mp hy with rfl | hy
    · exact Nat.le_refl _
    · obtain ⟨p, hp, rfl⟩ := List.mem_map.mp hy
      exact Nat.le_of_lt (I.above p.1 p.2 (List.mem_filter.mp hp).1)
  have hnl : ∀ y ∈ ownOf (envF d s.heap.objs.size a code), ¬ Live s.heap y := fun y hy ⟨o', e⟩ => Nat.lt_irrefl _ (Nat.lt_of_lt_of_le (Heap.lt_size e) (hold y hy))
  -- only the cells that a name finds
  have hcells : ∀ x c', (envF d s.heap.objs.size a code).cells.lookup x = some c' → s₁.heap.IsCell c' (bindC (envF d s.heap.objs.size a code).kindOf (ps.zip vs) (fun _ => none) x) := I.cell
  let X' : List Addr := (s.heap.objs.size :: ((envF d s.heap.objs.size a code).cells.filter fun p => (envF d s.heap.objs.size a code).cells.lookup p.1 == some p.2).map (·.2)) ++ X
  have kp : Kp s s₁ := by
    obtain ⟨h₁, tk, e, _⟩ := I.done
    subst e
    exact Kp.of hkeep htk
  have b1 : Base hB s₁ := hbs.kp0 kp
  have hX'old : ∀ y, Live s.heap y → y ∉ X → y ∉ X' := fun y hy hn hm => by
    rcases List.mem_append.mp hm with hm | hm
    · rcases List.mem_cons.mp hm with rfl | hm
      · exact not_live_size hy
      · obtain ⟨p, hp, rfl⟩ := List.mem_map.mp hm
        exact hnl _ (List.mem_cons_of_mem _ (List.mem_map_of_mem hp)) hy
    · exact hn hm
  have xok : XOk hB X' s₁ := fun y hy => by
    rcases List.mem_append.mp hy with hy | hy
    · have hnl' : ¬ Live s.heap y := by
        rcases List.mem_cons.mp hy with rfl | hy
        · exact not_live_size
        · obtain ⟨p, hp, rfl⟩ := List.mem_map.mp hy
          exact hnl _ (List.mem_cons_of_mem _ (List.mem_map_of_mem hp))
      refine ⟨?_, ?_⟩
      · cases e : hB.get? y with
        | none => rfl
        | some o' => exact absurd ⟨o', hbs.keep _ _ e⟩ hnl'
      · rcases List.mem_cons.mp hy with rfl | hy
        · obtain ⟨o', _, _, e, _⟩ := I.toInCall.ns
          exact ⟨o', e⟩
        · obtain ⟨p, hp, rfl⟩ := List.mem_map.mp hy
          have := (List.mem_filter.mp hp).2
          obtain ⟨o', e, _⟩ := hcells p.1 p.2 (by simpa using this)
          exact ⟨o', e⟩
    · exact (hx.kp kp) y hy
  have rs1 : Rels X' s₁.heap s₁.toks cs vs := rs.move hX'old (fun b o' _ e => hkeep b o' e) htk
  have own : Own X' (envF d s.heap.objs.size a code) s₁ := {
    kind := hk
    globals := rfl
    builtins := rfl
    ns := ⟨_, I.toInCall.ns⟩
    locX := List.mem_append_left _ List.mem_cons_self
    cell := fun x c' e => ⟨_, hcells x c' e⟩
    cellX := fun x c' e => List.mem_append_left _ (List.mem_cons_of_mem _ (List.mem_map.mpr ⟨(x, c'), List.mem_filter.mpr ⟨mem_of_lookup e, by simpa using e⟩, rfl⟩))
    apart := hap }
  have st : St X' (envF d s.heap.objs.size a code) (ps.zip cs) s₁ := fun x c' e => by
    obtain ⟨v, hv, r⟩ := zip_lookup e rs1
    refine ⟨v, ?_, r⟩
    rcases hkinds (s.heap.objs.size + 1) (x, v) hv with q | ⟨q, q2⟩
    · exact .inl ⟨q, _, I.toInCall.ns, bindL_hit q hndz hv⟩
    · obtain ⟨c'', e''⟩ := Option.isSome_iff_exists.mp q2
      refine .inr ⟨.inl q, c'', e'', ?_⟩
      have := hcells x c'' e''
      rwa [bindC_hit (by exact q) hndz hv] at this
  refine wpAny_mono ((h s.heap.objs.size a code).run X' _ _ s₁ hr.deeper ⟨b1, xok, own, st⟩) (fun f s' q => ?_) fun _ _ x => x
  obtain ⟨⟨v, rfl, r⟩, kp2⟩ := q
  have kpS : Kp s s' := (KpB.trans kp.any kp2).drop fun y hy => .inr (hnl y (myOf_own y hy))
  refine ⟨r.move (fun y hy hn hm => hn (List.mem_append_right _ hm)) (fun b o' _ e => e) (Nat.le_refl _), kpS⟩
end
end Mine

namespace Mine
open PySem PySem.W PySem.Calls PyProof.Rows

theorem ns_not_cell {h : Heap} {a : Addr} {m v} (n : h.Ns a m) (c : h.IsCell a v) : False := by
  obtain ⟨o, es, ep, e, hd, _⟩ := n
  obtain ⟨o', e', hd'⟩ := c
  rw [e] at e'; cases e'
  rw [hd] at hd'; cases hd'

theorem Heap.SameBut.live {h h' : Heap} {a b : Addr} (hs : Heap.SameBut a h h') (ha : Live h' a) (hb : Live h b) : Live h' b := by
  by_cases e : b = a
  · rw [e]; exact ha
  · obtain ⟨o, ho⟩ := hb; exact ⟨o, (hs.2 b e).trans ho⟩

/-- where a name of the frame's is kept -/
noncomputable def Slot (env : Env) (x : Str) (a : Addr) : Prop := (env.kindOf x = some .local ∧ a = env.locals) ∨ (env.kindOf x = some .cell ∧ env.cells.lookup x = some a ∧ env.locals < a)

section
variable {prog : Program} {w : World} {hB : Heap} {k : Nat} {env : Env} {σ : Sig} {mg mb : Str → Option Value}

theorem slot_own {x a} (h : Slot env x a) : a ∈ myOf env := by
  rcases h with ⟨_, rfl⟩ | ⟨_, e, hl⟩
  · exact List.mem_cons_self
  · exact myOf_cell e hl

theorem store_ok {X A E s} {x : Str} {a : Addr} {c : CV} {v : Value} (ok : Ok hB X env σ s) (hs : Slot env x a) (r : Rel X s.heap s.toks c v) :
    wpAny (model prog w) A (storeName env x v) (fun _ s' => Ok hB X env ((x, c) :: σ) s' ∧ KpB [a] s s') E s := by
  have hk := ok.own.kind
  rcases hs with ⟨hl, rfl⟩ | ⟨hl, hc, _⟩
  · obtain ⟨m, hn⟩ := ok.own.ns
    refine wpAny_storeName_local hl hn (fun h' hn' hsb => ?_) (by rw [hk]; rfl)
    have hlive : Live h' env.locals := let ⟨o, _, _, e, _⟩ := hn'; ⟨o, e⟩
    have kp : KpB [env.locals] s { s with heap := h', toks := s.toks + 1 } :=
      ⟨h', _, rfl, fun b o hb e => (hsb.2 b (by simpa using hb)).trans e, fun b hb => Heap.SameBut.live hsb hlive hb, Nat.le_succ _⟩
    have kpX : KpB X s { s with heap := h', toks := s.toks + 1 } := kp.weak (by intro b hb; rw [List.mem_singleton.mp hb]; exact ok.own.locX)
    refine ⟨⟨ok.base.kp ok.xok kpX, ok.xok.kp kp, ?_, ?_⟩, kp⟩
    · exact { ok.own with
        ns := ⟨_, hn'⟩
        cell := fun y c' e => let ⟨u, hu⟩ := ok.own.cell y c' e; ⟨u, hu.sameBut hsb (fun q => ns_not_cell hn (q ▸ hu))⟩ }
    · intro y d e
      rw [List.lookup_cons] at e
      cases q : y == x with
      | true =>
        rw [q] at e; cases e
        have := beq_iff_eq.mp q; subst this
        exact ⟨v, .inl ⟨hl, _, hn', by simp⟩, r.kp kpX⟩
      | false =>
        rw [q] at e
        obtain ⟨u, hu, ru⟩ := ok.st y d e
        refine ⟨u, ?_, ru.kp kpX⟩
        rcases hu with ⟨a1, m', n', e'⟩ | ⟨a1, c', e', hcell⟩
        · refine .inl ⟨a1, _, hn', ?_⟩
          have hne : y ≠ x := by simpa using q
          obtain ⟨o1, es1, ep1, g1, d1, s1, f1⟩ := hn
          obtain ⟨o2, es2, ep2, g2, d2, s2, f2⟩ := n'
          rw [g1] at g2; cases g2
          rw [d1] at d2; cases d2
          simp only [if_neg hne, ← f1]
          rw [f2]; exact e'
        · exact .inr ⟨a1, c', e', hcell.sameBut hsb (fun q => ns_not_cell hn (q ▸ hcell))⟩
  · obtain ⟨v0, hcell⟩ := ok.own.cell x a hc
    refine wpAny_storeName_cell hk hl hc hcell fun h' hc' hsb => ?_
    have hlive : Live h' a := let ⟨o, e, _⟩ := hc'; ⟨o, e⟩
    have kp : KpB [a] s { s with heap := h' } :=
      ⟨h', s.toks, rfl, fun b o hb e => (hsb.2 b (by simpa using hb)).trans e, fun b hb => Heap.SameBut.live hsb hlive hb, Nat.le_refl _⟩
    have kpX : KpB X s { s with heap := h' } := kp.weak (by intro b hb; rw [List.mem_singleton.mp hb]; exact ok.own.cellX x a hc)
    obtain ⟨m, hn⟩ := ok.own.ns
    have hne : env.locals ≠ a := fun q => ns_not_cell hn (q ▸ hcell)
    refine ⟨⟨ok.base.kp ok.xok kpX, ok.xok.kp kp, ?_, ?_⟩, kp⟩
    · refine { ok.own with
        ns := ⟨m, hn.sameBut hsb hne⟩
        cell := fun y c' e => ?_ }
      by_cases q : c' = a
      · subst q; exact ⟨_, hc'⟩
      · obtain ⟨u, hu⟩ := ok.own.cell y c' e
        exact ⟨u, hu.sameBut hsb q⟩
    · intro y d e
      rw [List.lookup_cons] at e
      cases q : y == x with
      | true =>
        rw [q] at e; cases e
        have := beq_iff_eq.mp q; subst this
        exact ⟨v, .inr ⟨.inl hl, a, hc, hc'⟩, r.kp kpX⟩
      | false =>
        rw [q] at e
        have hne' : y ≠ x := by simpa using q
        obtain ⟨u, hu, ru⟩ := ok.st y d e
        refine ⟨u, ?_, ru.kp kpX⟩
        rcases hu with ⟨a1, m', n', e'⟩ | ⟨a1, c', e', hcell'⟩
        · exact .inl ⟨a1, m', n'.sameBut hsb hne, e'⟩
        · exact .inr ⟨a1, c', e', hcell'.sameBut hsb (fun q => hne' (ok.own.apart y x a (q ▸ e') hc))⟩

theorem assign_ok {X A E s} {x : Str} {pos : Pos} {a : Addr} {c : CV} {v : Value} (ok : Ok hB X env σ s) (hs : Slot env x a) (r : Rel X s.heap s.toks c v) :
    wpAny (model prog w) A (assign (.Name x pos) env v) (fun _ s' => Ok hB X env ((x, c) :: σ) s' ∧ KpB [a] s s') E s :=
  wpAny_assign_Name (store_ok ok hs r)

theorem step_set {x : Str} {p pos : Pos} {e : Expr} {c : CV} (h : (Ev prog w hB) k env σ e c) (hs : ∃ a, Slot env x a) (hsw : swapsWith e (some (.Name x p)) pos.line env = pure false) : (Step1 prog w hB) k env σ (.Assign [.Name x p] e pos) ((x, c) :: σ) := by
  refine ⟨?_⟩
  intro X A E s hr ok
  obtain ⟨a, hs⟩ := hs
  refine wpAny_Assign_Name (wpAny_mono (h.run X A E s hr ok) (fun v s' q => ?_) fun _ _ x => x) hsw
  refine wpAny_mono (store_ok (ok.kp q.2) hs q.1) (fun _ s'' q2 => ?_) fun _ _ x => x
  exact ⟨rfl, q2.1, KpB.trans (Kp.any q.2) (q2.2.weak (by intro b hb; rw [List.mem_singleton.mp hb]; exact slot_own hs))⟩

theorem loadName_ok {X A E s} {x : Str} {c : CV} {Q : Value → Shared → Prop} (ok : Ok hB X env σ s) (h : σ.lookup x = some c) (hc : (x == ("__classdict__" : Str)) = false) (hQ : ∀ v, Rel X s.heap s.toks c v → Q v s) :
    wpAny (model prog w) A (loadName env x) Q E s := by
  obtain ⟨v, hv, r⟩ := ok.st x c h
  rcases hv with ⟨hk, m, hn, hm⟩ | ⟨hk | hk, cl, hcl, hcell⟩
  · exact wpAny_loadName_local ok.own.kind hk hn hm (hQ v r)
  · exact wpAny_loadName_cell ok.own.kind hk hcl hcell (hQ v r)
  · exact wpAny_loadName_free ok.own.kind hk hcl hcell (hQ v r) hc

theorem step_aug {x : Str} {p pos : Pos} {op : Operator} {e : Expr} {c d q : CV} (hx : σ.lookup x = some c) (hc : (x == ("__classdict__" : Str)) = false) (h : (Ev prog w hB) k env σ e d) (o : OpOk prog w hB (inplaceOp op) c d q) (hs : ∃ a, Slot env x a) :
    (Step1 prog w hB) k env σ (.AugAssign (.Name x p) op e pos) ((x, q) :: σ) := by
  refine ⟨?_⟩
  intro X A E s hr ok
  obtain ⟨a, hs⟩ := hs
  refine wpAny_AugAssign_Name (loadName_ok ok hx hc fun v r => ?_)
  refine wpAny_mono (h.run X A E s hr ok) (fun u s' q1 => ?_) fun _ _ x => x
  refine wpAny_mono (o.run X A E s' v u hr.handled (room_units hr) (ok.base.kp0 q1.2) (r.kp (Kp.any q1.2)) q1.1) (fun y s'' q2 => ?_) fun _ _ x => x
  refine wpAny_mono (store_ok ((ok.kp q1.2).kp q2.2) hs q2.1) (fun _ s3 q3 => ?_) fun _ _ x => x
  exact ⟨rfl, q3.1, KpB.trans (Kp.any (KpB.trans q1.2 q2.2)) (q3.2.weak (by intro b hb; rw [List.mem_singleton.mp hb]; exact slot_own hs))⟩
theorem op_iadd {i j : Int} : OpOk prog w hB (inplaceOp .Add) (.int i) (.int j) (.int (i + j)) := by
  refine ⟨?_⟩
  rintro X A E s v u hh hu hb ⟨t, rfl⟩ ⟨t', rfl⟩
  exact PyProof.Rows.iadd_int ⟨⟨_, rfl⟩, Kp.toksOnly (Nat.le_succ _)⟩

/-- the names known may be fewer -/
theorem Ok.sub {X s} {σ' : Sig} (ok : Ok hB X env σ s) (h : ∀ x c, σ'.lookup x = some c → σ.lookup x = some c) : Ok hB X env σ' s := ⟨ok.base, ok.xok, ok.own, fun x c e => ok.st x c (h x c e)⟩
theorem steps_sub {body : List Stmt} {σ' σ'' : Sig} (h : (Steps prog w hB) k env σ body σ') (hs : ∀ x c, σ''.lookup x = some c → σ'.lookup x = some c) : (Steps prog w hB) k env σ body σ'' := by
  refine ⟨?_⟩
  intro X A E s hr ok
  exact wpAny_mono (h.run X A E s hr ok) (fun f s' q => ⟨q.1, q.2.1.sub hs, q.2.2⟩) fun _ _ x => x

-- slots of a def's frame
theorem cellsFrom_ge {x : Str} {c : Addr} : ∀ (names : List (Str × NameKind)) (n : Nat) (acc : List (Str × Addr)), (cellsFrom n names acc).lookup x = some c → n ≤ c ∨ acc.lookup x = some c
  | [], _, _, h => .inr h
  | (y, k) :: r, n, acc, h => by
    unfold cellsFrom at h
    by_cases hk : (k == .cell) = true
    · rw [if_pos hk] at h
      rcases cellsFrom_ge r (n + 1) _ h with q | q
      · exact .inl (Nat.le_of_succ_le q)
      · rw [List.lookup_cons] at q
        cases e : x == y with
        | true => rw [e] at q; cases q; exact .inl (Nat.le_refl _)
        | false => rw [e] at q; exact .inr q
    · rw [if_neg hk] at h
      exact cellsFrom_ge r n acc h
theorem slot_local {x : Str} (h : env.kindOf x = some .local) : ∃ a, Slot env x a := ⟨_, .inl ⟨h, rfl⟩⟩
theorem slot_cell {d : DefRec} {L a : Addr} {cd : Value} {x : Str} (h : d.scope.names.lookup x = some .cell) : ∃ b, Slot (envF d L a cd) x b := by
  have := PySem.W.cellsFrom_some (x := x) d.scope.names (L + 1) [] (.inl h)
  obtain ⟨b, e⟩ := Option.isSome_iff_exists.mp this
  refine ⟨b, .inr ⟨h, e, ?_⟩⟩
  rcases cellsFrom_ge d.scope.names (L + 1) [] e with q | q
  · exact q
  · cases q
end
end Mine

namespace Mine
open PySem PySem.W PySem.Calls PyProof.Rows

section
variable {prog : Program} {w : World} {hB : Heap} {k : Nat} {env : Env} {σ : Sig} {mg mb : Str → Option Value}

theorem seqIndex_in {i : Int} {n : Nat} (h0 : 0 ≤ i) (h1 : i.toNat < n) : seqIndex? i n = some i.toNat := by
  have e : ¬ i < 0 := by omega
  have e2 : i < (n : Int) := by omega
  unfold seqIndex?
  simp [e, h0, e2]
/-- item of a value at an index -/
noncomputable def ItemOk (prog : Program) (w : World) (hB : Heap) (co ci c : CV) : Prop := ∀ X A E s o i, Base hB s → Rel X s.heap s.toks co o → Rel X s.heap s.toks ci i →
  ∃ T id, typeLookup (.type T) "__getitem__" = pure (some (.builtin id)) ∧ s.TypeIs o T ∧ wpAny (model prog w) A (getItem o i) (fun v s' => Rel X s'.heap s'.toks c v ∧ Kp s s') E s

theorem sub_gen {A E s} {value slice : Expr} {pos : Pos} {o i : Value} {Q : Value → Shared → Prop} {T id : String} (hl : typeLookup (.type T) "__getitem__" = pure (some (.builtin id))) (hT : s.TypeIs o T)
    (hsub : ∃ vs, subscripted slice false o i = operate vs (getItem o i)) (hg : wpAny (model prog w) A (getItem o i) Q E s) :
    wpAny (model prog w) A (do standAt pos; let r ← subscripted slice (← getitemInPython o) o i; letTemporaryGo value o r; pure r) Q E s := by
  refine wpAny_bind (wpAny_standAt ?_)
  obtain ⟨vs, hsub⟩ := hsub
  have fin : wpAny (model prog w) A (operate vs (getItem o i)) (fun r s₃ => wpAny (model prog w) A (letTemporaryGo value o r >>= fun _ => pure r) Q E s₃) E s :=
    wpAny_operating (wpAny_mono hg (fun r s₃ h₃ => wpAny_bind (wpAny_letTemporaryGo (wpAny_pure h₃))) fun _ _ x => x)
  refine wpAny_bind ?_
  rw [getitemInPython_of_ne hT.not_modules]
  refine wpAny_bind (wpAny_specialOf hT hl ?_)
  refine wpAny_pure ?_
  rw [hsub]
  exact wpAny_bind fin

theorem ev_sub {value slice : Expr} {pos : Pos} {co ci c : CV} (io : ItemOk prog w hB co ci c) (ho : (Ev prog w hB) k env σ value co) (hi : (Ev prog w hB) k env σ slice ci)
    (hsub : ∀ o i, ∃ vs, subscripted slice false o i = operate vs (getItem o i)) : (Ev prog w hB) k env σ (.Subscript value slice pos) c := by
  refine ⟨?_⟩
  intro X A E s hr ok
  rw [eval_Subscript]
  refine wpAny_bind (wpAny_mono (ho.run X A E s hr ok) (fun o s₁ q => wpAny_bind (wpAny_holding (wpAny_mono (hi.run X A E s₁ hr (ok.kp q.2)) (fun i s₂ q2 => ?_) fun _ _ x => x))) fun _ _ x => x)
  have kp := q.2.trans q2.2
  obtain ⟨T, id, hl, hT, hg⟩ := io X A E s₂ o i (ok.base.kp0 kp) (q.1.kp q2.2.any) q2.1
  exact sub_gen hl hT (hsub o i) (wpAny_mono hg (fun v s3 q3 => ⟨q3.1, kp.trans q3.2⟩) fun _ _ x => x)

theorem item_list {xs : List CV} {i : Int} {c : CV} (h0 : 0 ≤ i) (h1 : i < 2 ^ 62) (hx : xs[i.toNat]? = some c) : ItemOk prog w hB (.list xs) (.int i) c := by
  rintro X A E s o v hb ⟨a, its, rfl, ha, hpl, rs⟩ ⟨t, rfl⟩
  have hl := hpl.isList
  obtain ⟨u, hu, r⟩ := rs.get hx
  exact ⟨"list", _, PySem.slot_list_getitem.lookup, hl.typeIs, wpAny_getItem_list hl h0 (by omega) (by rw [← Array.getElem?_toList]; exact hu) ⟨r, KpB.refl⟩⟩
theorem item_tup {xs : List CV} {i : Int} {c : CV} (h0 : 0 ≤ i) (h1 : i < 2 ^ 62) (hx : xs[i.toNat]? = some c) : ItemOk prog w hB (.tup xs) (.int i) c := by
  rintro X A E s o v hb ⟨a, its, rfl, ha, hl, rs⟩ ⟨t, rfl⟩
  obtain ⟨u, hu, r⟩ := rs.get hx
  have hx' : its[i.toNat]? = some u := by rw [← Array.getElem?_toList]; exact hu
  have hlt : i.toNat < its.size := by
    rcases Nat.lt_or_ge i.toNat its.size with q | q
    · exact q
    · rw [Array.getElem?_eq_none q] at hx'; cases hx'
  exact ⟨"tuple", _, PyProof.Rows.slot_tuple_getitem.lookup, hl.typeIs, getItem_tuple (j := i.toNat) hl (by omega) (by omega) (seqIndex_in h0 hlt) hx' ⟨r, KpB.refl⟩⟩
theorem item_str {x : Str} {i : Int} {c : Nat} (h0 : 0 ≤ i) (h1 : i < 2 ^ 62) (hx : x.cps[i.toNat]? = some c) : ItemOk prog w hB (.str x) (.int i) (.str ⟨#[c]⟩) := by
  rintro X A E s o v hb ⟨t, rfl⟩ ⟨t', rfl⟩
  have hlt : i.toNat < x.cps.size := by
    rcases Nat.lt_or_ge i.toNat x.cps.size with q | q
    · exact q
    · rw [Array.getElem?_eq_none q] at hx; cases hx
  refine ⟨"str", _, PySem.F.slot_str_getitem.lookup, typeIs_str s x t, PyProof.Rows.getItem_str (c := c) ?_ ?_ ⟨⟨_, rfl⟩, Kp.toksOnly (Nat.le_succ _)⟩⟩
  · simp; omega
  · rw [show x.length = x.cps.size from rfl, seqIndex_in h0 hlt]
    exact hx

/-- a slice's part -/
structure PartEv (prog : Program) (w : World) (hB : Heap) (k : Nat) (env : Env) (σ : Sig) (e : Option Expr) (p : Option Int) : Prop where
  run : ∀ X A E s, Room A k → Ok hB X env σ s →
  wpAny (model prog w) A (evalPart e env) (fun v s' => IsPart v p ∧ Kp s s') E s
theorem part_none : PartEv prog w hB k env σ none none := by
  refine ⟨?_⟩
  intro X A E s hr ok
  exact wpAny_pure ⟨.none, KpB.refl⟩
theorem part_some {e : Expr} {i : Int} (h : (Ev prog w hB) k env σ e (.int i)) : PartEv prog w hB k env σ (some e) (some i) := by
  refine ⟨?_⟩
  intro X A E s hr ok
  rw [evalPart_some]
  exact wpAny_mono (h.run X A E s hr ok) (fun v s' q => ⟨let ⟨t, e⟩ := q.1; e ▸ .int i t, q.2⟩) fun _ _ x => x

noncomputable def pickC (xs : List CV) (lo hi st : Option Int) : List CV :=
  (sliceRange (sliceBounds lo hi st xs.length).1 (sliceBounds lo hi st xs.length).2.1 (sliceBounds lo hi st xs.length).2.2).filterMap (xs[·]?)
theorem Rels.pick {X h n} {cs : List CV} {its : Array Value} (r : Rels X h n cs its.toList) : ∀ l : List Nat, Rels X h n (l.filterMap (cs[·]?)) (l.filterMap (its[·]?))
  | [] => rfl
  | i :: l => by
    cases e : cs[i]? with
    | none =>
      have hlen := r.length
      rw [Array.length_toList] at hlen
      have : its[i]? = none := by
        rw [List.getElem?_eq_none_iff] at e
        exact Array.getElem?_eq_none (by omega)
      simp only [List.filterMap_cons, e, this]
      exact Rels.pick r l
    | some c =>
      obtain ⟨v, hv, rv⟩ := r.get e
      rw [Array.getElem?_toList] at hv
      simp only [List.filterMap_cons, e, hv]
      exact ⟨v, _, rfl, rv, Rels.pick r l⟩

theorem ev_slice {value : Expr} {l u st : Option Expr} {p pos : Pos} {xs : List CV} {lo hi sp : Option Int} (hv : (Ev prog w hB) k env σ value (.list xs)) (hl : PartEv prog w hB k env σ l lo) (hu : PartEv prog w hB k env σ u hi) (hst : PartEv prog w hB k env σ st sp)
    (h0 : sp ≠ some 0) (hn : xs.length ≤ sizeLine) : (Ev prog w hB) k env σ (.Subscript value (.Slice l u st p) pos) (.list (pickC xs lo hi sp)) := by
  refine ⟨?_⟩
  intro X A E s hr ok
  rw [eval_Subscript]
  refine wpAny_bind (wpAny_mono (hv.run X A E s hr ok) (fun o s₁ q => wpAny_bind (wpAny_holding ?_)) fun _ _ x => x)
  have ok1 := ok.kp q.2
  refine wpAny_Slice (wpAny_mono (hl.run X A E s₁ hr ok1) (fun vl s₂ q2 => ?_) fun _ _ x => x)
  have ok2 := ok1.kp q2.2
  refine wpAny_mono (hu.run X A E s₂ hr ok2) (fun vu s₃ q3 => ?_) fun _ _ x => x
  have ok3 := ok2.kp q3.2
  refine wpAny_mono (hst.run X A E s₃ hr ok3) (fun vst s₄ q4 => ?_) fun _ _ x => x
  have kp : Kp s s₄ := ((q.2.trans q2.2).trans q3.2).trans q4.2
  have r4 := q.1.kp (Kp.any (W := X) ((q2.2.trans q3.2).trans q4.2))
  obtain ⟨a, its, rfl, ha, hplist, rs⟩ := r4
  have hlist := hplist.isList
  have hlen := rs.length
  rw [Array.length_toList] at hlen
  have hk1 : Kp s₄ { s₄ with heap := s₄.heap.push { cls := .type "slice", data := .fields #[vl, vu, vst] } } := Kp.push
  refine sub_gen PySem.slot_list_getitem.lookup (hlist.push _).typeIs ?_ (wpAny_getItem_list_slice (hlist.push _) (Heap.IsSliceOf.new ..) q2.1 q3.1 q4.1 h0 ?_ (by rw [hlen]; exact hn))
  · cases st <;> exact ⟨_, rfl⟩
  · have hk2 : Kp { s₄ with heap := s₄.heap.push { cls := .type "slice", data := .fields #[vl, vu, vst] } } { s₄ with heap := (s₄.heap.push { cls := .type "slice", data := .fields #[vl, vu, vst] }).push { cls := .type "list", data := .seq (slicePick its lo hi sp) } } := Kp.push
    refine ⟨⟨_, slicePick its lo hi sp, rfl, ?_, ⟨_, Heap.get?_push_size _ rfl⟩, ?_⟩, (kp.trans hk1).trans hk2⟩
    · intro hm
      exact not_live_size ((ok.xok.kp kp).kp hk1 _ hm).2
    · have := (rs.pick (sliceRange (sliceBounds lo hi sp xs.length).1 (sliceBounds lo hi sp xs.length).2.1 (sliceBounds lo hi sp xs.length).2.2)).kp (Kp.any (W := X) (hk1.trans hk2))
      have e : (slicePick its lo hi sp).toList = (sliceRange (sliceBounds lo hi sp xs.length).1 (sliceBounds lo hi sp xs.length).2.1 (sliceBounds lo hi sp xs.length).2.2).filterMap (its[·]?) := by
        unfold slicePick; rw [hlen]
      rw [e]; exact this
-- displays
theorem ev_list {es : List Expr} {pos : Pos} {cs : List CV} (h : Evs prog w hB k env σ es cs) (hn : cs.length ≤ sizeLine) : (Ev prog w hB) k env σ (.List es pos) (.list cs) := by
  refine ⟨?_⟩
  intro X A E s hr ok
  refine List_ (wpAny_mono (h.run pos X A E s hr ok) (fun vs s₁ q => ?_) fun _ _ x => x)
  have hlen := q.1.length
  refine wpAny_newObj_type ⟨⟨_, vs.toArray, rfl, ?_, ⟨_, Heap.get?_push_size _ rfl⟩, ?_⟩, q.2.trans Kp.push⟩ (by show vs.toArray.size ≤ sizeLine; rw [List.size_toArray, hlen]; exact hn)
  · intro hm; exact not_live_size (ok.xok.kp q.2 _ hm).2
  · exact q.1.kp (Kp.any Kp.push)
theorem ev_tup {es : List Expr} {n : Nat} {pos : Pos} {cs : List CV} (h : Evs prog w hB k env σ es cs) (hn : cs.length ≤ sizeLine) : (Ev prog w hB) k env σ (.Tuple es n pos) (.tup cs) := by
  refine ⟨?_⟩
  intro X A E s hr ok
  refine Tuple_ (wpAny_mono (h.run pos X A E s hr ok) (fun vs s₁ q => ?_) fun _ _ x => x)
  have hlen := q.1.length
  refine wpAny_newObj_type ⟨⟨_, vs.toArray, rfl, ?_, ⟨_, Heap.get?_push_size _ rfl, rfl, _, rfl⟩, ?_⟩, q.2.trans Kp.push⟩ (by show vs.toArray.size ≤ sizeLine; rw [List.size_toArray, hlen]; exact hn)
  · intro hm; exact not_live_size (ok.xok.kp q.2 _ hm).2
  · exact q.1.kp (Kp.any Kp.push)
end
end Mine

namespace Mine
open PySem PySem.W PySem.Calls PyProof.Rows

theorem Rels.flat {X h n} {cs : List CV} {vs : List Value} (r : Rels X h n cs vs) : ∀ k : Nat, Rels X h n (List.replicate k cs).flatten (List.replicate k vs).flatten
  | 0 => rfl
  | k + 1 => by simpa [List.replicate_succ] using r.append (Rels.flat r k)

section
variable {prog : Program} {w : World} {hB : Heap} {k : Nat} {env : Env} {σ : Sig} {mg mb : Str → Option Value}

theorem fresh_notX {X : List Addr} {s : Shared} (x : ∀ a ∈ X, Live s.heap a) : s.heap.objs.size ∉ X := fun h => not_live_size (x _ h)

/-- an operator that may make a list: X is alive -/
structure OpX (prog : Program) (w : World) (hB : Heap) (t : Value → Value → Sem Value) (c d r : CV) : Prop where
  run : ∀ X A E s v u, A.handled = none → A.units + 100 < cLine → Base hB s → XOk hB X s → Rel X s.heap s.toks c v → Rel X s.heap s.toks d u →
  wpAny (model prog w) A (t v u) (fun x s' => Rel X s'.heap s'.toks r x ∧ Kp s s') E s
theorem OpOk.x {t c d r} (o : OpOk prog w hB t c d r) : OpX prog w hB t c d r := ⟨fun X A E s v u hh hu hb _ r1 r2 => o.run X A E s v u hh (by omega) hb r1 r2⟩
theorem room_units' {A k} (r : Room A k) : A.units + 100 < cLine := by have := r.units; show A.units + 100 < 9900; omega
theorem evx_bin {l r : Expr} {op : Operator} {pos : Pos} {c d q : CV} (o : OpX prog w hB (binaryOp op) c d q) (h1 : Ev prog w hB k env σ l c) (h2 : Ev prog w hB k env σ r d) : Ev prog w hB k env σ (.BinOp l op r pos) q := by
  refine ⟨?_⟩
  intro X A E s hr ok
  refine wpAny_BinOp (ev_two h1 h2 hr ok fun v u s' r1 r2 kp => ?_)
  exact wpAny_mono (o.run X A E s' v u hr.handled (room_units' hr) (ok.base.kp0 kp) (ok.xok.kp kp) r1 r2) (fun x s'' y => ⟨y.1, kp.trans y.2⟩) fun _ _ x => x
theorem evx_cmp {l r : Expr} {op : CmpOp} {pos : Pos} {c d q : CV} (o : OpX prog w hB (compareOp op) c d q) (h1 : Ev prog w hB k env σ l c) (h2 : Ev prog w hB k env σ r d) (hm : behindInMarks op r = false) : Ev prog w hB k env σ (.Compare l [op] [r] pos) q := by
  refine ⟨?_⟩
  intro X A E s hr ok
  refine wpAny_Compare1 (ev_two h1 h2 hr ok fun v u s' r1 r2 kp => ?_) hm
  exact wpAny_mono (o.run X A E s' v u hr.handled (room_units' hr) (ok.base.kp0 kp) (ok.xok.kp kp) r1 r2) (fun x s'' y => ⟨y.1, kp.trans y.2⟩) fun _ _ x => x
theorem trx_cmp {l r : Expr} {op : CmpOp} {pos : Pos} {c d : CV} {b : Bool} (o : OpX prog w hB (compareOp op) c d (.bool b)) (h1 : Ev prog w hB k env σ l c) (h2 : Ev prog w hB k env σ r d) (hm : behindInMarks op r = false) : Tr prog w hB k env σ (.Compare l [op] [r] pos) b := by
  refine ⟨?_⟩
  intro X A E s hr ok
  refine wpAny_isTrue_Compare1 (ev_two h1 h2 hr ok fun v u s' r1 r2 kp => ?_) hm
  refine wpAny_mono (o.run X A E s' v u hr.handled (room_units' hr) (ok.base.kp0 kp) (ok.xok.kp kp) r1 r2) (fun x s'' y => ?_) fun _ _ x => x
  rw [show x = _ from y.1]
  exact wpAny_truthy_bool ⟨rfl, kp.trans y.2⟩

theorem op_addL {xs ys : List CV} (hn : xs.length + ys.length ≤ sizeLine) : OpX prog w hB (binaryOp .Add) (.list xs) (.list ys) (.list (xs ++ ys)) := by
  refine ⟨?_⟩
  rintro X A E s v u hh hu hb hx ⟨a, its, rfl, ha, hpl, rs⟩ ⟨b, its2, rfl, hbx, hpl2, rs2⟩
  have hl := hpl.isList
  have hl2 := hpl2.isList
  have e1 := rs.length
  have e2 := rs2.length
  rw [Array.length_toList] at e1 e2
  obtain ⟨⟨cls, dd, data, sl⟩, ho, hc, n, hd⟩ := id hl
  obtain ⟨⟨cls2, dd2, data2, sl2⟩, ho2, hc2, n2, hd2⟩ := id hl2
  simp only at hc hd hc2 hd2
  subst hc hd hc2 hd2
  refine concat_meets ⟨_, ho, rfl⟩ ⟨_, ho2, rfl⟩ noFill_list_add seq_list_add PySem.F.slot_list_add PySem.F.entry_list_add (PySem.F.args_list_add_2 _ _) (PyProof.Rows.list_addW a b its its2 n n2 dd dd2 sl sl2 (by omega)) ⟨ho, ho2, ?_⟩
  refine ⟨⟨_, its ++ its2, rfl, fresh_notX (fun a h => (hx a h).2), ⟨_, Heap.get?_push_size _ rfl⟩, ?_⟩, Kp.push⟩
  have kp : Kp s { s with heap := s.heap.push { cls := Value.type "list", data := Data.seq (its ++ its2) } } := Kp.push
  have := (rs.append rs2).kp (kp.any (W := X))
  simpa using this

theorem op_mulL {xs : List CV} {i : Int} (h0 : 0 ≤ i) (h1 : i ≤ 1000) (hn : xs.length ≤ 1000) : OpX prog w hB (binaryOp .Mult) (.list xs) (.int i) (.list (List.replicate i.toNat xs).flatten) := by
  refine ⟨?_⟩
  rintro X A E s v u hh hu hb hx ⟨a, its, rfl, ha, hpl, rs⟩ ⟨t, rfl⟩
  have hl := hpl.isList
  have e1 := rs.length
  rw [Array.length_toList] at e1
  obtain ⟨⟨cls, dd, data, sl⟩, ho, hc, n, hd⟩ := id hl
  simp only at hc hd
  subst hc hd
  have hmul : its.size * i.toNat ≤ 1000 * 1000 := Nat.mul_le_mul (by omega) (by omega)
  refine wpAny_binaryOp_repeat_ref (T := "list") (U := "int") (by decide) ⟨_, ho, rfl⟩ (fun s' => typeIs_int s' i t) noFill_list_mul F.fills_int_mul F.slot_int_rmul repeat_list F.slot_int_index.lookup
    (call_meets F.slot_int_rmul (typeIs_int s i t) F.entry_int_rmul (F.args_int_rmul_2 _ _) (lm_int_rmul_list_any i t a its n dd sl)
      ⟨ho, ?_⟩)
  refine ⟨rfl, ⟨_, ho, rfl⟩, ?_⟩
  refine call_meets F.slot_list_mul ⟨_, ho, rfl⟩ F.entry_list_mul (F.args_list_mul_2 _ _)
    (lm_list_mul_any a its n dd sl i t (by simp [Builtin.List.listFitsIndex]; omega) (by omega) (by simp [Builtin.List.listTooLong, sizeLine]; omega)) ⟨ho, ?_⟩
  refine ⟨⟨_, _, rfl, fresh_notX (fun a h => (hx a h).2), ⟨_, Heap.get?_push_size _ rfl⟩, ?_⟩, Kp.push⟩
  have kp := Kp.push (s := s) (o := { cls := Value.type "list", data := Data.seq (List.foldl (fun x1 x2 => x1 ++ x2) #[] (List.replicate (if its.isEmpty = true then 0 else i.toNat) its)) })
  have r2 := (rs.flat i.toNat).kp (kp.any (W := X))
  have e : (List.foldl (fun x1 x2 => x1 ++ x2) #[] (List.replicate (if its.isEmpty = true then 0 else i.toNat) its)).toList = (List.replicate i.toNat its.toList).flatten := by
    rw [PyProof.Rows.listMul_foldl]
    by_cases q : its.isEmpty = true
    · have q' : its.toList = [] := by simpa using q
      simp [q, q']
    · simp [q]
  rw [e]; exact r2

-- deep data
mutual
noncomputable def toPy : CV → PyData
  | .none => .none
  | .bool b => .bool b
  | .int i => .int i
  | .tint i => .int i
  | .intT i _ => .int i
  | .ptr _ => .none
  | .str s => .str s
  | .list xs => .list (toPys xs)
  | .tup xs => .tuple (toPys xs)
noncomputable def toPys : List CV → List PyData
  | [] => []
  | x :: xs => toPy x :: toPys xs
end
mutual
/-- no bare address within -/
noncomputable def CV.np : CV → Bool
  | .ptr _ => false
  | .str x => PySem.PyData.strOk x
  | .list xs => CV.nps xs
  | .tup xs => CV.nps xs
  | _ => true
noncomputable def CV.nps : List CV → Bool
  | [] => true
  | x :: xs => x.np && CV.nps xs
end
theorem nps_map {α : Type} {f : α → CV} : ∀ {l : List α}, (∀ a ∈ l, (f a).np = true) → CV.nps (l.map f) = true
  | [], _ => rfl
  | a :: r, h => by
    rw [List.map_cons, CV.nps, h a List.mem_cons_self, nps_map fun x hx => h x (List.mem_cons_of_mem _ hx)]; rfl
mutual
theorem Rel.reads {X h n} : ∀ {c : CV} {v : Value}, c.np = true → Rel X h n c v → ∃ as, PySem.Reads h v (toPy c) as
  | .none, _, _, r => ⟨[], by rw [show _ = Value.none from r]; exact .none⟩
  | .bool b, _, _, r => ⟨[], by rw [show _ = Value.bool b from r]; exact .bool b⟩
  | .int i, _, _, ⟨t, e⟩ => ⟨[], by rw [e]; exact .int i t⟩
  | .tint i, _, _, ⟨t, e, _⟩ => ⟨[], by rw [e]; exact .int i t⟩
  | .intT i _, _, _, ⟨t, e, _⟩ => ⟨[], by rw [e]; exact .int i t⟩
  | .ptr _, _, q, _ => by cases q
  | .str x, _, _, ⟨t, e⟩ => ⟨[], by rw [e]; exact .str x t⟩
  | .list xs, _, q, ⟨a, its, e, _, ⟨n, h1⟩, rs⟩ => by
    obtain ⟨as, q⟩ := Rels.reads q rs
    exact ⟨a :: as, by rw [e]; exact .list h1 rfl rfl q⟩
  | .tup xs, _, q, ⟨a, its, e, _, ⟨o, h1, h2, n, h3⟩, rs⟩ => by
    obtain ⟨as, q⟩ := Rels.reads q rs
    exact ⟨as, by rw [e]; exact .tuple h1 h2 h3 q⟩
theorem Rels.reads {X h n} : ∀ {cs : List CV} {vs : List Value}, CV.nps cs = true → Rels X h n cs vs → ∃ as, PySem.ReadsAll h vs (toPys cs) as
  | [], _, _, r => ⟨[], by rw [show _ = ([] : List Value) from r]; exact .nil⟩
  | c :: cs, _, q, ⟨v, vs', e, r, rs⟩ => by
    obtain ⟨q1, q2⟩ : c.np = true ∧ CV.nps cs = true := Bool.and_eq_true_iff.mp q
    obtain ⟨as, q⟩ := Rel.reads q1 r
    obtain ⟨bs, q2⟩ := Rels.reads q2 rs
    exact ⟨as ++ bs, by rw [e]; exact .cons q q2⟩
end

theorem op_eqD {c d : CV} (n1 : c.np = true) (n2 : d.np = true) (hc : SeqAt.shaped (toPy c) = true) (hd : SeqAt.shaped (toPy d) = true) : OpX prog w hB (compareOp .Eq) c d (.bool (PyData.eqv (toPy c) (toPy d))) := by
  refine ⟨?_⟩
  intro X A E s v u hh hu hb hx r1 r2
  obtain ⟨as, q1⟩ := r1.reads n1
  obtain ⟨bs, q2⟩ := r2.reads n2
  exact eq_dataH q1 q2 hc hd (by omega) ⟨rfl, KpB.refl⟩
theorem op_neD {c d : CV} (n1 : c.np = true) (n2 : d.np = true) (hc : SeqAt.shaped (toPy c) = true) (hd : SeqAt.shaped (toPy d) = true) : OpX prog w hB (compareOp .NotEq) c d (.bool (!PyData.eqv (toPy c) (toPy d))) := by
  refine ⟨?_⟩
  intro X A E s v u hh hu hb hx r1 r2
  obtain ⟨as, q1⟩ := r1.reads n1
  obtain ⟨bs, q2⟩ := r2.reads n2
  exact ne_dataH q1 q2 hc hd (by omega) ⟨rfl, KpB.refl⟩
theorem op_inT {c : CV} {xs : List CV} (n1 : c.np = true) (n2 : CV.nps xs = true) (hc : (toPy c).canLay0 = true) (hx : PyData.canLayAll0 (toPys xs) = true) (hdep : PyData.depthAll (toPys xs) ≤ 50) :
    OpX prog w hB (compareOp .In) c (.tup xs) (.bool ((toPys xs).any fun y => PyData.eqv y (toPy c))) := by
  refine ⟨?_⟩
  intro X A E s v u hh hu hb hxx r1 r2
  obtain ⟨as, q1⟩ := r1.reads n1
  obtain ⟨bs, q2⟩ := Rel.reads (c := .tup xs) n2 r2
  have hm : min (PyData.depthAll (toPys xs)) (toPy c).depth ≤ PyData.depthAll (toPys xs) := Nat.min_le_left _ _
  exact SeqAt.in_tuple_reads q2 q1 hx hc (by omega) ⟨rfl, KpB.refl⟩
theorem op_inL {c : CV} {xs : List CV} (n1 : c.np = true) (n2 : CV.nps xs = true) (hc : (toPy c).canLay0 = true) (hx : PyData.canLayAll0 (toPys xs) = true) (hdep : PyData.depthAll (toPys xs) ≤ 50) :
    OpX prog w hB (compareOp .In) c (.list xs) (.bool ((toPys xs).any fun y => PyData.eqv y (toPy c))) := by
  refine ⟨?_⟩
  intro X A E s v u hh hu hb hxx r1 r2
  obtain ⟨as, q1⟩ := r1.reads n1
  obtain ⟨bs, q2⟩ := Rel.reads (c := .list xs) n2 r2
  have hm : min (PyData.depthAll (toPys xs)) (toPy c).depth ≤ PyData.depthAll (toPys xs) := Nat.min_le_left _ _
  exact SeqAt.in_list_reads q2 q1 hx hc (by omega) ⟨rfl, KpB.refl⟩
theorem op_notInL {c : CV} {xs : List CV} (n1 : c.np = true) (n2 : CV.nps xs = true) (hc : (toPy c).canLay0 = true) (hx : PyData.canLayAll0 (toPys xs) = true) (hdep : PyData.depthAll (toPys xs) ≤ 50) :
    OpX prog w hB (compareOp .NotIn) c (.list xs) (.bool (!(toPys xs).any fun y => PyData.eqv y (toPy c))) := by
  refine ⟨?_⟩
  intro X A E s v u hh hu hb hxx r1 r2
  obtain ⟨as, q1⟩ := r1.reads n1
  obtain ⟨bs, q2⟩ := Rel.reads (c := .list xs) n2 r2
  have hm : min (PyData.depthAll (toPys xs)) (toPy c).depth ≤ PyData.depthAll (toPys xs) := Nat.min_le_left _ _
  exact SeqAt.notIn_list_reads q2 q1 hx hc (by omega) ⟨rfl, KpB.refl⟩
end
end Mine

namespace Mine
open PySem PySem.W PySem.Calls PyProof.Rows
open Sem (wp)

/-- all but W kept; W may be gone -/
noncomputable def KpW (W : List Addr) (s s' : Shared) : Prop := ∃ h' tk', s' = { s with heap := h', toks := tk' } ∧ (∀ b o, b ∉ W → s.heap.get? b = some o → h'.get? b = some o) ∧ s.toks ≤ tk'
theorem KpW.ext {s : Shared} {a : Addr} {h' : Heap} (x : Heap.ExtBut a s.heap h') {W : List Addr} (ha : a ∈ W) : KpW W s { s with heap := h' } :=
  ⟨h', s.toks, rfl, fun b o hb e => x b o (fun q => hb (q ▸ ha)) e, Nat.le_refl _⟩
theorem KpB.same {s : Shared} {a : Addr} {h' : Heap} {tk : Nat} (x : Heap.SameBut a s.heap h') (hl : Live h' a) (ht : s.toks ≤ tk) {W : List Addr} (ha : a ∈ W) : KpB W s { s with heap := h', toks := tk } :=
  ⟨h', tk, rfl, fun b o hb e => (x.2 b (fun q => hb (q ▸ ha))).trans e, fun b hb => Heap.SameBut.live x hl hb, ht⟩

structure IterLaw (prog : Program) (w : World) (hB : Heap) (it : Value) (W : List Addr) (J : List Addr → Nat → Shared → Prop) (tgt : Expr) (cs : List CV) : Prop where
  frame : ∀ X Y Z i s s', J X i s → KpB Z s s' → (∀ a ∈ Z, a ∈ X) → (∀ a ∈ Z, a ∉ W) → (∀ a ∈ X, a ∈ Y) → (∀ a, Live s.heap a → a ∉ X → a ∉ Y) → J Y i s'
  item : ∀ X A E i c s, cs[i]? = some c → A.handled = none → Base hB s → XOk hB X s → J X i s →
    wpAny (model prog w) A (pyNext it) (fun r s₁ => ∃ v, r = some v ∧ wpAny (model prog w) A (letOwnedTupleGo tgt it v) (fun _ s₂ => Rel X s₂.heap s₂.toks c v ∧ J X (i + 1) s₂ ∧ KpB W s s₂) E s₁) E s
  done : ∀ X A E s, A.handled = none → J X cs.length s → wpAny (model prog w) A (pyNext it) (fun r s₁ => r = none ∧ KpW W s s₁) E s
  self : ∀ X A E i s Q, J X i s → Q it s → wpAny (model prog w) A (pyIter it) Q E s

theorem own_go {M : Model} {A : Around} {E : Value → Shared → Prop} {s : Shared} {tgt : Expr} {I : Addr} {v : Value} {Q : Unit → Shared → Prop} {o : Obj} {n : String} (ho : s.heap.get? I = some o) (hc : o.cls = .type n)
    (hn : (["enumerate", "zip", "dict_itemiterator", "dict_reverseitemiterator", "odict_iterator", "itertools.zip_longest", "itertools.pairwise"].contains n) = false) (h : Q () s) :
    wpAny M A (letOwnedTupleGo tgt (.ref I) v) Q E s := by
  have main : ∀ a, wpAny M A (do
      let o ← load I
      match o.cls, o.data with
      | .type n, .fields vs =>
        if ["enumerate", "zip", "dict_itemiterator", "dict_reverseitemiterator", "odict_iterator", "itertools.zip_longest", "itertools.pairwise"].contains n && vs[0]? == some (rawInt a) then
          rule "for.unpacks-the-owned-tuple"
          updateField I 0 .none
      | _, _ => pure () : Sem Unit) Q E s := by
    intro a
    refine wpAny_bind (wpAny_load ho ?_)
    obtain ⟨cls, d, dt, sl⟩ := o
    simp only at hc
    subst hc
    cases dt with
    | fields vs =>
      simp only [hn, Bool.false_and, Bool.false_eq_true, if_false]
      exact wpAny_pure h
    | _ => exact wpAny_pure h
  cases tgt with
  | Tuple e c p => cases v with
    | ref a => exact main a
    | _ => exact wpAny_pure h
  | List e p => cases v with
    | ref a => exact main a
    | _ => exact wpAny_pure h
  | _ => exact wpAny_pure h

section
variable {prog : Program} {w : World} {hB : Heap}

theorem iter_list (tgt : Expr) {I l : Addr} {cs : List CV} : IterLaw prog w hB (.ref I) [I]
    (fun X i s => I ∈ X ∧ s.heap.IsListIter I l i ∧ l ∉ X ∧ ∃ its, s.heap.IsList l its ∧ Rels X s.heap s.toks cs its.toList) tgt cs where
  frame := by
    rintro X Y Z i s s' ⟨hI, hit, hl, its, hlist, rs⟩ k hZX hZW hXY hlive
    have kx : KpB X s s' := k.weak hZX
    refine ⟨hXY I hI, hit.at fun o e => k.get (fun q => hZW I q (by simp)) e, hlive l (live_list hlist) hl, its, hlist.at fun o e => kx.get hl e, ?_⟩
    obtain ⟨h', tk, rfl, h1, h2, h3⟩ := k
    refine rs.move hlive (fun b o hb e => h1 b o (fun q => hb (hZX b q)) e) h3
  item := by
    rintro X A E i c s hc hh hb hx ⟨hI, hit, hl, its, hlist, rs⟩
    obtain ⟨v, hv, r⟩ := rs.get hc
    rw [Array.getElem?_toList] at hv
    refine wpAny_pyNext_list_item hit hlist hv fun h' hit' hs => ⟨v, rfl, ?_⟩
    obtain ⟨o, ho, hcl, _⟩ := id hit'
    have k : KpB [I] s { s with heap := h' } := KpB.same (tk := s.toks) hs ⟨o, ho⟩ (Nat.le_refl _) (by simp)
    have kx : KpB X s { s with heap := h' } := k.weak (by intro a ha; rw [List.mem_singleton.mp ha]; exact hI)
    refine own_go ho hcl (by decide) ⟨r.kp kx, ⟨hI, hit', hl, its, hlist.at fun o e => kx.get hl e, rs.kp kx⟩, k⟩
  done := by
    rintro X A E s hh ⟨hI, hit, hl, its, hlist, rs⟩
    have e := rs.length
    rw [Array.length_toList] at e
    exact wpAny_pyNext_list_end hh hit hlist (by rw [Array.getElem?_eq_none]; omega) fun h' hx => ⟨rfl, KpW.ext hx (by simp)⟩
  self := by
    rintro X A E i s Q ⟨hI, hit, _⟩ hQ
    exact wpAny_pyIter_listiter hit hQ

theorem iter_tup (tgt : Expr) {I l : Addr} {cs : List CV} : IterLaw prog w hB (.ref I) [I]
    (fun X i s => I ∈ X ∧ s.heap.IsTupleIter I l i ∧ l ∉ X ∧ ∃ its, s.heap.IsTuple l its ∧ Rels X s.heap s.toks cs its.toList) tgt cs where
  frame := by
    rintro X Y Z i s s' ⟨hI, hit, hl, its, hlist, rs⟩ k hZX hZW hXY hlive
    have kx : KpB X s s' := k.weak hZX
    have hll : Live s.heap l := let ⟨o, e, _⟩ := hlist; ⟨o, e⟩
    refine ⟨hXY I hI, let ⟨o, e, r⟩ := hit; ⟨o, k.get (fun q => hZW I q (by simp)) e, r⟩, hlive l hll hl, its, let ⟨o, e, r⟩ := hlist; ⟨o, kx.get hl e, r⟩, ?_⟩
    obtain ⟨h', tk, rfl, h1, h2, h3⟩ := k
    refine rs.move hlive (fun b o hb e => h1 b o (fun q => hb (hZX b q)) e) h3
  item := by
    rintro X A E i c s hc hh hb hx ⟨hI, hit, hl, its, hlist, rs⟩
    obtain ⟨v, hv, r⟩ := rs.get hc
    rw [Array.getElem?_toList] at hv
    refine wpAny_pyNext_tuple_item hit hlist hv fun h' hit' hs => ⟨v, rfl, ?_⟩
    obtain ⟨o, ho, hcl, _⟩ := id hit'
    have k : KpB [I] s { s with heap := h' } := KpB.same (tk := s.toks) hs ⟨o, ho⟩ (Nat.le_refl _) (by simp)
    have kx : KpB X s { s with heap := h' } := k.weak (by intro a ha; rw [List.mem_singleton.mp ha]; exact hI)
    refine own_go ho hcl (by decide) ⟨r.kp kx, ⟨hI, hit', hl, its, let ⟨o, e, r⟩ := hlist; ⟨o, kx.get hl e, r⟩, rs.kp kx⟩, k⟩
  done := by
    rintro X A E s hh ⟨hI, hit, hl, its, hlist, rs⟩
    have e := rs.length
    rw [Array.length_toList] at e
    exact wpAny_pyNext_tuple_end hh hit hlist (by rw [Array.getElem?_eq_none]; omega) fun h' hx => ⟨rfl, KpW.ext hx (by simp)⟩
  self := by
    rintro X A E i s Q ⟨hI, hit, _⟩ hQ
    exact wpAny_pyIter_tupleiter hit hQ

noncomputable def rangeC (a : Int) (n : Nat) : List CV := (List.range n).map fun (i : Nat) => CV.int (a + i)
theorem iter_range (tgt : Expr) {I : Addr} {a : Int} {n : Nat} : IterLaw prog w hB (.ref I) [I]
    (fun X i s => I ∈ X ∧ IsRangeIter s.heap I (a + i) ((n : Int) - i) 1) tgt (rangeC a n) where
  frame := by
    rintro X Y Z i s s' ⟨hI, hit⟩ k hZX hZW hXY hlive
    exact ⟨hXY I hI, k.get (fun q => hZW I q (by simp)) hit⟩
  item := by
    rintro X A E i c s hc hh hb hx ⟨hI, hit⟩
    have hi : i < n := by
      rcases Nat.lt_or_ge i n with q | q
      · exact q
      · rw [rangeC, List.getElem?_eq_none (by simpa using q)] at hc; cases hc
    have hc' : c = .int (a + i) := by
      rw [rangeC, List.getElem?_map, List.getElem?_range hi] at hc
      simpa using hc.symm
    subst hc'
    refine wpAny_pyNext_range_item hit (by omega) fun h' hit' hs => ⟨_, rfl, ?_⟩
    have k : KpB [I] s { s with heap := h', toks := s.toks + 1 } := KpB.same hs ⟨_, hit'⟩ (Nat.le_succ _) (by simp)
    refine own_go hit' rfl (by decide) ⟨⟨_, rfl⟩, ⟨hI, ?_⟩, k⟩
    have e1 : a + ((i + 1 : Nat) : Int) = a + i + 1 := by push_cast; omega
    have e2 : (n : Int) - ((i + 1 : Nat) : Int) = n - i - 1 := by push_cast; omega
    rw [e1, e2]; exact hit'
  done := by
    rintro X A E s hh ⟨hI, hit⟩
    have e : (rangeC a n).length = n := by simp [rangeC]
    rw [e] at hit
    exact wpAny_pyNext_range_end hh hit (by omega) fun h' hx => ⟨rfl, KpW.ext hx (by simp)⟩
  self := by
    rintro X A E i s Q ⟨hI, hit⟩ hQ
    exact wpAny_pyIter_rangeiter hit hQ
end

section
variable {prog : Program} {w : World} {hB : Heap} {k : Nat} {env : Env} {σ : Sig} {mg mb : Str → Option Value}

/-- what a loop walks along -/
structure Src (prog : Program) (w : World) (hB : Heap) (k : Nat) (env : Env) (σ : Sig) (e tgt : Expr) (cs : List CV) : Prop where
  run : ∀ X A E s, Room A k → Ok hB X env σ s →
  wpAny (model prog w) A (eval e env) (fun x s₁ => wpAny (model prog w) A (pyIter x) (fun it s₂ => ∃ W J, IterLaw prog w hB it W J tgt cs ∧ J (W ++ X) 0 s₂ ∧ Kp s s₂ ∧ ∀ a ∈ W, ¬ Live s.heap a ∧ Live s₂.heap a) E s₁) E s

theorem fresh_widen {s s₂ : Shared} {X : List Addr} {I : Addr} (hI : ¬ Live s.heap I) {a : Addr} (ha : Live s.heap a) (hX : a ∉ X) : a ∉ [I] ++ X := by
  simp only [List.singleton_append, List.mem_cons, not_or]
  exact ⟨fun q => hI (q ▸ ha), hX⟩

theorem src_list {e tgt : Expr} {cs : List CV} (h : Ev prog w hB k env σ e (.list cs)) : Src prog w hB k env σ e tgt cs := by
  refine ⟨?_⟩
  intro X A E s hr ok
  refine wpAny_mono (h.run X A E s hr ok) (fun v s₁ q => ?_) fun _ _ x => x
  obtain ⟨⟨a, its, rfl, ha, hpl, rs⟩, kp⟩ := q
  have hl := hpl.isList
  refine wpAny_pyIter_list hl ⟨[s₁.heap.objs.size], _, iter_list tgt (l := a), ?_, kp.trans Kp.push, ?_⟩
  · have hk : Kp s₁ { s₁ with heap := s₁.heap.push { cls := .type "list_iterator", data := .fields #[.ref a, .int 0 0] } } := Kp.push
    refine ⟨by simp, ⟨_, Heap.get?_push_size _ rfl, rfl, rfl⟩, fresh_widen (s := s₁) (s₂ := s₁) not_live_size (live_list hl) ha, its, hl.at fun o e => hk.get e, ?_⟩
    exact rs.move (fun b hb hx => fresh_widen (s := s₁) (s₂ := s₁) not_live_size hb hx) (fun b o _ e => hk.get e) (Nat.le_refl _)
  · intro b hb
    rw [List.mem_singleton.mp hb]
    exact ⟨fun q => not_live_size (kp.live q), _, Heap.get?_push_size _ rfl⟩
theorem src_tup {e tgt : Expr} {cs : List CV} (h : Ev prog w hB k env σ e (.tup cs)) : Src prog w hB k env σ e tgt cs := by
  refine ⟨?_⟩
  intro X A E s hr ok
  refine wpAny_mono (h.run X A E s hr ok) (fun v s₁ q => ?_) fun _ _ x => x
  obtain ⟨⟨a, its, rfl, ha, hl, rs⟩, kp⟩ := q
  have hll : Live s₁.heap a := let ⟨o, e, _⟩ := hl; ⟨o, e⟩
  refine wpAny_pyIter_tuple hl ⟨[s₁.heap.objs.size], _, iter_tup tgt (l := a), ?_, kp.trans Kp.push, ?_⟩
  · have hk : Kp s₁ { s₁ with heap := s₁.heap.push { cls := .type "tuple_iterator", data := .fields #[.ref a, .int 0 0] } } := Kp.push
    refine ⟨by simp, ⟨_, Heap.get?_push_size _ rfl, rfl, rfl⟩, fresh_widen (s := s₁) (s₂ := s₁) not_live_size hll ha, its, let ⟨o, e, r⟩ := hl; ⟨o, hk.get e, r⟩, ?_⟩
    exact rs.move (fun b hb hx => fresh_widen (s := s₁) (s₂ := s₁) not_live_size hb hx) (fun b o _ e => hk.get e) (Nat.le_refl _)
  · intro b hb
    rw [List.mem_singleton.mp hb]
    exact ⟨fun q => not_live_size (kp.live q), _, Heap.get?_push_size _ rfl⟩

/-- a call of a built-in, its arguments laid -/
theorem call_bi {f : Str} {fv : Value} {p pos : Pos} {e : Expr} {rest : List Expr} {args : List CV} {X A E s} {Q : Value → Shared → Prop} (G : Glob hB mg mb) (hr : Room A k) (ok : Ok hB X env σ s) (hm : mg f = none) (hv : bootBuiltins f = some fv) (hf : isMachine fv = true)
    (h : Evs prog w hB k env σ (e :: rest) args)
    (hs : (e :: rest).all (fun e => !isStarred e) = true) (hx : env.kindOf f = some .globalImplicit) (hd : (f == ("__debug__" : Str)) = false) (hn : f ≠ "__name__")
    (hQ : ∀ vs s₁, Rels X s₁.heap s₁.toks args vs → Kp s s₁ → wpAny (model prog w) A (call fv vs) Q E s₁) : wpAny (model prog w) A (eval (.Call (.Name f p) (e :: rest) [] pos) env) Q E s := by
  refine wpAny_Call_Name_kw (ev_builtin G ok hm hv hn hx hd ?_)
  have hs1 : isStarred e = false := by
    rw [List.all_cons, Bool.and_eq_true, Bool.not_eq_true'] at hs; exact hs.1
  refine callWith_machine hf (backTo_plain hs) (evalArgs_some hs1 (wpAny_mono (h.run pos X A E s hr ok) (fun vs s₁ q => ?_) fun _ _ x => x))
  exact hQ vs s₁ q.1 q.2

theorem range_iter {X A E s s₁} {a b : Int} {t u v : Tok} {r : Addr} {tgt : Expr} (ha : -(2 ^ 61) ≤ a ∧ a < 2 ^ 61) (hb : -(2 ^ 61) ≤ b ∧ b < 2 ^ 61) (kp : Kp s s₁) (hr : IsRange s₁.heap r a b 1 t u v) :
    wpAny (model prog w) A (pyIter (.ref r)) (fun it s₂ => ∃ W J, IterLaw prog w hB it W J tgt (rangeC a (b - a).toNat) ∧ J (W ++ X) 0 s₂ ∧ Kp s s₂ ∧ ∀ a ∈ W, ¬ Live s.heap a ∧ Live s₂.heap a) E s₁ := by
  refine wpAny_pyIter_range hr (small_one (by omega) (by omega) (by omega) (by omega)) ⟨[s₁.heap.objs.size], _, iter_range tgt, ?_, kp.trans Kp.push, ?_⟩
  · refine ⟨by simp, ?_⟩
    have e : Builtin.Range.rangeSize a b 1 = ((b - a).toNat : Int) := by
      rw [rangeSize_one]; split <;> omega
    have := Heap.get?_push_size s₁.heap (o := { cls := .type "range_iterator", data := .fields #[rawInt a, rawInt (Builtin.Range.rangeSize a b 1), rawInt 1] }) rfl
    rw [e] at this
    rw [e]
    simpa using this
  · intro b hb
    rw [List.mem_singleton.mp hb]
    exact ⟨fun q => not_live_size (kp.live q), _, Heap.get?_push_size _ rfl⟩

theorem src_range1 {p pos : Pos} {e tgt : Expr} {n : Int} (G : Glob hB mg mb) (hm : mg "range" = none) (h : Ev prog w hB k env σ e (.int n)) (hn : -(2 ^ 61) ≤ n ∧ n < 2 ^ 61) (hs : isStarred e = false) (hx : env.kindOf "range" = some .globalImplicit) :
    Src prog w hB k env σ (.Call (.Name "range" p) [e] [] pos) tgt (rangeC 0 n.toNat) := by
  refine ⟨?_⟩
  intro X A E s hr ok
  refine call_bi G hr ok hm (fv := .type "range") (by decide +kernel) rfl (evs_cons h evs_nil hs) (by simp [hs]) hx (by decide +kernel) (by decide +kernel) fun vs s₁ rs kp => ?_
  obtain ⟨v, vs', rfl, ⟨t, rfl⟩, rfl⟩ := rs
  refine call_range_1 ?_
  have k2 : Kp s { s₁ with heap := s₁.heap.push { cls := .type "range", data := .fields #[.int 0 s₁.toks, .int n t, .int 1 (s₁.toks + 1)] }, toks := s₁.toks + 1 + 1 } :=
    kp.trans (Kp.of (fun b o e => Heap.get?_push_of_some _ e) (by omega))
  have := range_iter (prog := prog) (w := w) (hB := hB) (X := X) (A := A) (E := E) (tgt := tgt) (a := 0) (b := n) (by omega) hn k2 (Heap.get?_push_size _ rfl)
  simpa using this
theorem src_range2 {p pos : Pos} {e f tgt : Expr} {m n : Int} (G : Glob hB mg mb) (hm : mg "range" = none) (h : Ev prog w hB k env σ e (.int m)) (h2 : Ev prog w hB k env σ f (.int n)) (hmm : -(2 ^ 61) ≤ m ∧ m < 2 ^ 61) (hn : -(2 ^ 61) ≤ n ∧ n < 2 ^ 61) (hs : isStarred e = false) (hs2 : isStarred f = false) (hx : env.kindOf "range" = some .globalImplicit) :
    Src prog w hB k env σ (.Call (.Name "range" p) [e, f] [] pos) tgt (rangeC m (n - m).toNat) := by
  refine ⟨?_⟩
  intro X A E s hr ok
  refine call_bi G hr ok hm (fv := .type "range") (by decide +kernel) rfl (evs_cons h (evs_cons h2 evs_nil hs2) hs) (by simp [hs, hs2]) hx (by decide +kernel) (by decide +kernel) fun vs s₁ rs kp => ?_
  obtain ⟨v, vs', rfl, ⟨t, rfl⟩, v', vs'', rfl, ⟨t', rfl⟩, rfl⟩ := rs
  refine call_range_2 ?_
  have k2 : Kp s { s₁ with heap := s₁.heap.push { cls := .type "range", data := .fields #[.int m t, .int n t', .int 1 s₁.toks] }, toks := s₁.toks + 1 } :=
    kp.trans (Kp.of (fun b o e => Heap.get?_push_of_some _ e) (by omega))
  exact range_iter (prog := prog) (w := w) (hB := hB) (X := X) (A := A) (E := E) (tgt := tgt) hmm hn k2 (Heap.get?_push_size _ rfl)
end
end Mine

namespace Mine
open PySem PySem.W PySem.Calls PyProof.Rows
open Sem (wp)

section
variable {prog : Program} {w : World} {A : Around} {E : Value → Shared → Prop} {s : Shared}

theorem draw_list {it t : Addr} {items : Array Value} (hne : t ≠ it) : ∀ (n i : Nat) (s : Shared) (Q : List Value → Shared → Prop), s.heap.IsListIter it t i → s.heap.IsList t items → i + n ≤ items.size →
    (∀ h', h'.IsListIter it t (i + n) → Heap.SameBut it s.heap h' → Q ((items.toList.drop i).take n) { s with heap := h' }) → wpAny (model prog w) A (draw (.ref it) n) Q E s
  | 0, i, s, Q, hit, _, _, hQ => by
    show wpAny _ _ (pure []) Q E s
    exact wpAny_pure (by simpa using hQ s.heap hit (Heap.SameBut.refl ..))
  | n + 1, i, s, Q, hit, ht, hle, hQ => by
    have hlt : i < items.size := by omega
    show wpAny _ _ (pyNext (.ref it) >>= _) Q E s
    refine wpAny_bind (wpAny_pyNext_list_item hit ht (x := items[i]) (by simp [hlt]) fun h₁ hit₁ hs₁ => ?_)
    refine wpAny_bind (wpAny_holding (draw_list hne n (i + 1) _ _ hit₁ (ht.extBut hs₁.extBut hne) (by omega) fun h₂ hit₂ hs₂ => wpAny_pure ?_))
    have hd : items.toList.drop i = items[i] :: items.toList.drop (i + 1) := by simp [List.drop_eq_getElem_cons, hlt]
    have := hQ h₂ (by rw [show i + (n + 1) = i + 1 + n by omega]; exact hit₂) (hs₁.trans hs₂)
    rw [hd, List.take_succ_cons] at this
    exact this

theorem unpackItems_list {t : Addr} {items : Array Value} {Q : List Value → Shared → Prop} (hh : A.handled = none) (ht : s.heap.IsList t items)
    (hQ : ∀ h', Heap.ExtBut s.heap.objs.size s.heap h' → Q items.toList { s with heap := h' }) : wpAny (model prog w) A (unpackItems (.ref t) items.size none) Q E s := by
  have hlt : t ≠ s.heap.objs.size := by obtain ⟨o, ho, _⟩ := ht; exact Nat.ne_of_lt (Heap.lt_size ho)
  unfold unpackItems
  refine wpAny_bind ?_
  unfold notIterableAtAll
  refine wpAny_bind (wpAny_specialOf ht.typeIs slot_list_iter.lookup ?_)
  refine wpAny_pure ?_
  simp only [Bool.false_eq_true, if_false]
  refine wpAny_bind (wpAny_holding (wpAny_pyIter_list ht ?_))
  refine wpAny_bind (wpAny_holding (draw_list hlt items.size 0 _ _ ⟨_, Heap.get?_push_size _ rfl, rfl, rfl⟩ (ht.push _) (by omega) fun h₁ hit₁ hs₁ => ?_))
  have hall : List.take items.size (List.drop 0 items.toList) = items.toList := by
    rw [List.drop_zero]; exact List.take_of_length_le (by simp)
  rw [hall]
  rw [if_neg (by simp)]
  have ht₁ : h₁.IsList t items := (ht.push _).extBut hs₁.extBut hlt
  refine wpAny_bind (wpAny_holding (wpAny_pyNext_list_end hh hit₁ ht₁ (by simp) fun h₂ he₂ => ?_))
  simp only [Option.isSome_none, Bool.false_eq_true, if_false]
  refine wpAny_pure (hQ h₂ fun b o hb e => he₂ b o hb (hs₁.extBut b o hb (Heap.get?_push_of_some _ e)))
end

theorem Kp.extBut {s : Shared} {h' : Heap} (x : Heap.ExtBut s.heap.objs.size s.heap h') : Kp s { s with heap := h' } :=
  Kp.of (fun b o e => x b o (Nat.ne_of_lt (Heap.lt_size e)) e) (Nat.le_refl s.toks)

section
variable {prog : Program} {w : World} {hB : Heap} {k : Nat} {env : Env} {σ : Sig} {mg mb : Str → Option Value}

/-- a target takes a clean value -/
structure Bind (prog : Program) (w : World) (hB : Heap) (env : Env) (tgt : Expr) (c : CV) (σ σ' : Sig) : Prop where
  run : ∀ X A E s v, A.handled = none → Ok hB X env σ s → Rel X s.heap s.toks c v →
  wpAny (model prog w) A (assign tgt env v) (fun _ s' => Ok hB X env σ' s' ∧ KpB (myOf env) s s') E s
structure Binds (prog : Program) (w : World) (hB : Heap) (env : Env) (tgts : List Expr) (cs : List CV) (σ σ' : Sig) : Prop where
  run : ∀ X A E s vs, A.handled = none → Ok hB X env σ s → Rels X s.heap s.toks cs vs →
  wpAny (model prog w) A (assignInOrder ((assignEach tgts env).map (·.2)) vs) (fun _ s' => Ok hB X env σ' s' ∧ KpB (myOf env) s s') E s

theorem bind_name {x : Str} {p : Pos} {c : CV} (hs : ∃ a, Slot env x a) : Bind prog w hB env (.Name x p) c σ ((x, c) :: σ) := by
  refine ⟨?_⟩
  intro X A E s v hh ok r
  obtain ⟨a, hs⟩ := hs
  refine wpAny_mono (assign_ok ok hs r) (fun _ s' q => ⟨q.1, q.2.weak (by intro b hb; rw [List.mem_singleton.mp hb]; exact slot_own hs)⟩) fun _ _ x => x
theorem binds_nil : Binds prog w hB env [] [] σ σ := by
  refine ⟨?_⟩
  intro X A E s vs hh ok r
  rw [show vs = [] from r]
  exact wpAny_pure ⟨ok, KpB.refl⟩
theorem assignEach_cons_name (x : Str) (p : Pos) (rest : List Expr) : assignEach (.Name x p :: rest) env = (false, assign (.Name x p) env) :: assignEach rest env := rfl
theorem binds_cons {x : Str} {p : Pos} {rest : List Expr} {c : CV} {cs : List CV} {σ₁ : Sig} (h : Binds prog w hB env rest cs ((x, c) :: σ) σ₁) (hs : ∃ a, Slot env x a) : Binds prog w hB env (.Name x p :: rest) (c :: cs) σ σ₁ := by
  refine ⟨?_⟩
  intro X A E s vs hh ok r
  obtain ⟨v, vs', rfl, r1, rs⟩ := r
  rw [assignEach_cons_name, List.map_cons]
  show wpAny _ _ (do holding vs' (assign (.Name x p) env v); assignInOrder _ vs') _ _ _
  refine wpAny_bind (wpAny_holding (wpAny_mono ((bind_name hs).run X A E s v hh ok r1) (fun _ s₁ q => ?_) fun _ _ x => x))
  refine wpAny_mono (h.run X A E s₁ vs' hh q.1 (rs.kp (q.2.weak fun a h => ownOf_sub ok.own a (myOf_own a h)))) (fun _ s₂ q2 => ⟨q2.1, q.2.trans q2.2⟩) fun _ _ x => x

theorem bind_tup {tgts : List Expr} {n : Nat} {p : Pos} {cs : List CV} {σ₁ : Sig} (h : Binds prog w hB env tgts cs σ σ₁) (hn : (assignEach tgts env).length = cs.length) (hstar : (assignEach tgts env).findIdx? (·.1) = none) :
    Bind prog w hB env (.Tuple tgts n p) (.tup cs) σ σ₁ := by
  refine ⟨?_⟩
  intro X A E s v hh ok r
  obtain ⟨a, its, rfl, ha, hl, rs⟩ := r
  have e := rs.length
  rw [Array.length_toList] at e
  refine wpAny_assign_Tuple hh hl (by omega) hstar fun h' hx => ?_
  have kp := Kp.extBut hx
  exact wpAny_mono (h.run X A E _ its.toList hh (ok.kp kp) (rs.kp (Kp.any kp))) (fun _ s₂ q2 => ⟨q2.1, KpB.trans (Kp.any kp) q2.2⟩) fun _ _ x => x
theorem bind_list {tgts : List Expr} {n : Nat} {p : Pos} {cs : List CV} {σ₁ : Sig} (h : Binds prog w hB env tgts cs σ σ₁) (hn : (assignEach tgts env).length = cs.length) (hstar : (assignEach tgts env).findIdx? (·.1) = none) :
    Bind prog w hB env (.Tuple tgts n p) (.list cs) σ σ₁ := by
  refine ⟨?_⟩
  intro X A E s v hh ok r
  obtain ⟨a, its, rfl, ha, hpl, rs⟩ := r
  have hl := hpl.isList
  have e := rs.length
  rw [Array.length_toList] at e
  rw [arm_assign_Tuple]
  refine wpAny_bind (wpAny_standAt ?_)
  unfold unpack
  rw [hstar, show (assignEach tgts env).length = its.size by omega]
  refine wpAny_bind (wpAny_holding (unpackItems_list hh hl fun h' hx => ?_))
  have kp := Kp.extBut hx
  exact wpAny_mono (h.run X A E _ its.toList hh (ok.kp kp) (rs.kp (Kp.any kp))) (fun _ s₂ q2 => ⟨q2.1, KpB.trans (Kp.any kp) q2.2⟩) fun _ _ x => x

/-- tuple targets, one behind the other -/
theorem step_tup {tgts : List Expr} {n : Nat} {p pos : Pos} {e : Expr} {cs : List CV} {σ₁ : Sig} (h : Ev prog w hB k env σ e (.tup cs)) (hb : Binds prog w hB env tgts cs σ σ₁) (hn : (assignEach tgts env).length = cs.length) (hstar : (assignEach tgts env).findIdx? (·.1) = none)
    (hs : swapsWithSole [.Tuple tgts n p] e pos.line env = pure false) (hw : swappedStores [.Tuple tgts n p] e env = pure none) : Step1 prog w hB k env σ (.Assign [.Tuple tgts n p] e pos) σ₁ := by
  refine ⟨?_⟩
  intro X A E s hr ok
  refine Assign_Tuple (wpAny_mono (h.run X A E s hr ok) (fun v s₁ q => ?_) fun _ _ x => x) hs hw
  refine wpAny_mono ((bind_tup (n := n) (p := p) hb hn hstar).run X A E s₁ v hr.handled (ok.kp q.2) q.1) (fun _ s₂ q2 => ⟨rfl, q2.1, KpB.trans (Kp.any q.2) q2.2⟩) fun _ _ x => x

/-- names bound by their stores -/
structure BindN (prog : Program) (w : World) (hB : Heap) (env : Env) (xs : List Str) (cs : List CV) (σ σ' : Sig) : Prop where
  run : ∀ X A E s vs, A.handled = none → Ok hB X env σ s → Rels X s.heap s.toks cs vs →
  wpAny (model prog w) A (assignInOrder (xs.map fun n => bindName env n) vs) (fun _ s' => Ok hB X env σ' s' ∧ KpB (myOf env) s s') E s
theorem bindn_nil : BindN prog w hB env [] [] σ σ := by
  refine ⟨?_⟩
  intro X A E s vs hh ok r
  rw [show vs = [] from r]
  exact wpAny_pure ⟨ok, KpB.refl⟩
theorem bindn_cons {x : Str} {rest : List Str} {c : CV} {cs : List CV} {σ₁ : Sig} (h : BindN prog w hB env rest cs ((x, c) :: σ) σ₁) (hs : ∃ a, Slot env x a) : BindN prog w hB env (x :: rest) (c :: cs) σ σ₁ := by
  refine ⟨?_⟩
  intro X A E s vs hh ok r
  obtain ⟨v, vs', rfl, r1, rs⟩ := r
  obtain ⟨a, hs⟩ := hs
  rw [List.map_cons]
  show wpAny _ _ (do holding vs' (bindName env x v); assignInOrder _ vs') _ _ _
  refine wpAny_bind (wpAny_holding (wpAny_bindName (wpAny_mono (store_ok ok hs r1) (fun _ s₁ q => ?_) fun _ _ x => x)))
  have kp : KpB (myOf env) s s₁ := q.2.weak (by intro b hb; rw [List.mem_singleton.mp hb]; exact slot_own hs)
  refine wpAny_mono (h.run X A E s₁ vs' hh q.1 (rs.kp (kp.weak fun a h => ownOf_sub ok.own a (myOf_own a h)))) (fun _ s₂ q2 => ⟨q2.1, kp.trans q2.2⟩) fun _ _ x => x
theorem Rels.reverse {X h n} : ∀ {cs : List CV} {vs : List Value}, Rels X h n cs vs → Rels X h n cs.reverse vs.reverse
  | [], _, r => by rw [show _ = ([] : List Value) from r]; rfl
  | _ :: _, _, ⟨v, vs', e, r, rs⟩ => by rw [e, List.reverse_cons, List.reverse_cons]; exact rs.reverse.append (Rels.one r)
theorem step_swap {tgts : List Expr} {n : Nat} {p pos : Pos} {e : Expr} {cs : List CV} {names : List Str} {σ₁ : Sig} (h : Ev prog w hB k env σ e (.tup cs)) (hb : BindN prog w hB env names.reverse cs.reverse σ σ₁) (hn : names.length = cs.length)
    (hs : swapsWithSole [.Tuple tgts n p] e pos.line env = pure false) (hw : swappedStores [.Tuple tgts n p] e env = pure (some names)) : Step1 prog w hB k env σ (.Assign [.Tuple tgts n p] e pos) σ₁ := by
  refine ⟨?_⟩
  intro X A E s hr ok
  refine Assign_Tuple_swapped (wpAny_mono (h.run X A E s hr ok) (fun v s₁ q => ?_) fun _ _ x => x) hs hw
  have ok1 := ok.kp q.2
  obtain ⟨⟨a, its, rfl, ha, hl, rs⟩, kp⟩ := q
  have e := rs.length
  rw [Array.length_toList] at e
  rw [show names.length = its.size by omega]
  refine wpAny_unpackItems_tuple hr.handled hl fun h' hx => ?_
  have kp2 := Kp.extBut hx
  refine wpAny_mono (hb.run X A E _ its.toList.reverse hr.handled (ok1.kp kp2) (rs.kp (Kp.any kp2)).reverse) (fun _ s₂ q2 => ⟨rfl, q2.1, KpB.trans (Kp.any (kp.trans kp2)) q2.2⟩) fun _ _ x => x

-- the frame's X grown and narrowed
theorem Ok.widen {X W : List Addr} {s s₂ : Shared} (ok : Ok hB X env σ s) (kp : Kp s s₂) (hW : ∀ a ∈ W, ¬ Live s.heap a ∧ Live s₂.heap a) : Ok hB (W ++ X) env σ s₂ := by
  have ok2 := ok.kp kp
  refine ⟨ok2.base, ?_, ?_, ?_⟩
  · intro y hy
    rcases List.mem_append.mp hy with h | h
    · refine ⟨?_, (hW y h).2⟩
      cases e : hB.get? y with
      | none => rfl
      | some o => exact absurd ⟨o, ok.base.keep _ _ e⟩ (hW y h).1
    · exact ok2.xok y h
  · exact { ok2.own with locX := List.mem_append_right _ ok2.own.locX, cellX := fun x c e => List.mem_append_right _ (ok2.own.cellX x c e) }
  · intro x c e
    obtain ⟨v, hv, r⟩ := ok.st x c e
    refine ⟨v, hv.keeps fun b o q => kp.get q, r.move (fun a ha hn hm => ?_) (fun b o _ q => kp.get q) kp.toks⟩
    rcases List.mem_append.mp hm with h | h
    · exact (hW a h).1 ha
    · exact hn h
theorem Ok.leave {X W : List Addr} {s s₂ : Shared} (ok : Ok hB (W ++ X) env σ s) (kp : KpW W s s₂) (hW : ∀ a ∈ W, a ∉ X) (hl : env.locals ∈ X) (hc : ∀ x c, env.cells.lookup x = some c → c ∈ X) : Ok hB X env σ s₂ := by
  obtain ⟨h', tk, rfl, h1, h2⟩ := kp
  have hXW : ∀ a ∈ X, a ∉ W := fun a ha hw => hW a hw ha
  refine ⟨⟨fun b o e => h1 b o (fun hw => ?_) (ok.base.keep b o e), Nat.lt_of_lt_of_le ok.base.toks h2⟩, ?_, ?_, ?_⟩
  · rw [(ok.xok b (List.mem_append_left _ hw)).1] at e; cases e
  · intro y hy
    obtain ⟨e, o, ho⟩ := ok.xok y (List.mem_append_right _ hy)
    exact ⟨e, o, h1 y o (hXW y hy) ho⟩
  · refine { ok.own with locX := hl, cellX := hc, ns := ?_, cell := ?_ }
    · obtain ⟨m, o, es, ep, e, r⟩ := ok.own.ns
      exact ⟨m, o, es, ep, h1 _ _ (hXW _ hl) e, r⟩
    · intro x c e
      obtain ⟨v, o, ho, hd⟩ := ok.own.cell x c e
      exact ⟨v, o, h1 _ _ (hXW _ (hc x c e)) ho, hd⟩
  · intro x c e
    obtain ⟨v, hv, r⟩ := ok.st x c e
    refine ⟨v, ?_, r.move (fun a _ hn hm => hn (List.mem_append_right _ hm)) (fun b o hb q => h1 b o (fun hw => hb (List.mem_append_left _ hw)) q) h2⟩
    rcases hv with ⟨a1, m, ⟨o, es, ep, e', r'⟩, hm⟩ | ⟨a1, c', e', o, ho, hd⟩
    · exact .inl ⟨a1, m, ⟨o, es, ep, h1 _ _ (hXW _ hl) e', r'⟩, hm⟩
    · exact .inr ⟨a1, c', e', o, h1 _ _ (hXW _ (hc x c' e')) ho, hd⟩

theorem Ok.off {X W : List Addr} {s s₄ : Shared} (ok' : Ok hB X env σ s) (k4 : KpB W s s₄) (hWX : ∀ a ∈ W, a ∈ X) (hWown : ∀ a ∈ ownOf env, a ∉ W) : Ok hB X env σ s₄ := by
  have kX : KpB X s s₄ := k4.weak hWX
  refine ⟨ok'.base.kp ok'.xok kX, ok'.xok.kp k4, ?_, ?_⟩
  · refine { ok'.own with ns := ?_, cell := ?_ }
    · obtain ⟨m, o, es, ep, e, r⟩ := ok'.own.ns
      exact ⟨m, o, es, ep, k4.get (hWown _ List.mem_cons_self) e, r⟩
    · intro x c e
      obtain ⟨v, o, ho, hd⟩ := ok'.own.cell x c e
      exact ⟨v, o, k4.get (hWown _ (ownOf_cell e)) ho, hd⟩
  · intro x c e
    obtain ⟨u, hu, ru⟩ := ok'.st x c e
    refine ⟨u, ?_, ru.kp kX⟩
    rcases hu with ⟨a1, m, ⟨o, es, ep, e', r'⟩, hm⟩ | ⟨a1, c', e', o, ho, hd⟩
    · exact .inl ⟨a1, m, ⟨o, es, ep, k4.get (hWown _ List.mem_cons_self) e', r'⟩, hm⟩
    · exact .inr ⟨a1, c', e', o, k4.get (hWown _ (ownOf_cell e')) ho, hd⟩
theorem Kp.leave {own W : List Addr} {s s₁ s₂ : Shared} (k1 : KpB (own ++ W) s s₁) (k2 : KpW W s₁ s₂) (hW : ∀ a ∈ W, ¬ Live s.heap a) (hl : ∀ a ∈ own, Live s.heap a) : KpB own s s₂ := by
  obtain ⟨h1, t1, rfl, a1, b1, c1⟩ := k1
  obtain ⟨h2, t2, rfl, a2, c2⟩ := k2
  have hlw : ∀ b, Live s.heap b → b ∉ W := fun b hb hw => hW b hw hb
  refine ⟨h2, t2, rfl, fun b o hb e => a2 b o (hlw b ⟨o, e⟩) (a1 b o (fun hm => ?_) e), fun b hb => ?_, Nat.le_trans c1 c2⟩
  · rcases List.mem_append.mp hm with h | h
    · exact hb h
    · exact hlw b ⟨o, e⟩ h
  · obtain ⟨o, e⟩ := b1 b hb
    exact ⟨o, a2 b o (hlw b hb) e⟩

theorem own_live {X s} (o : Own X env s) (x : XOk hB X s) : ∀ a ∈ ownOf env, Live s.heap a := fun a h => (x a (ownOf_sub o a h)).2

theorem step_for {iter tgt : Expr} {body : List Stmt} {pos : Pos} {cs : List CV} (hsrc : Src prog w hB k env σ iter tgt cs) (f : Nat → Sig) (hf : ∀ y c, (f 0).lookup y = some c → σ.lookup y = some c)
    (turn : ∀ i c, cs[i]? = some c → ∃ σ₁, Bind prog w hB env tgt c (f i) σ₁ ∧ Steps prog w hB k env σ₁ body (f (i + 1)))
    (hfold : ∀ x, foldedSetIterable iter env x = pure x) : Step1 prog w hB k env σ (.For tgt iter body [] pos) (f cs.length) := by
  refine ⟨?_⟩
  intro X A E s hr ok
  refine wpAny_For (wpAny_mono (hsrc.run X A E s hr ok) (fun x s₁ h₁ => wpAny_mono h₁ (fun it s₂ q => ?_) fun _ _ x => x) fun _ _ x => x) hfold
  obtain ⟨W, J, L, hJ, kp, hW⟩ := q
  have ok2 : Ok hB (W ++ X) env (f 0) s₂ := (ok.widen kp hW).sub hf
  have hWX : ∀ a ∈ W, a ∉ X := fun a ha hx => (hW a ha).1 (ok.xok a hx).2
  have hWown : ∀ a ∈ ownOf env, a ∉ W := fun a ha hw => hWX a hw (ownOf_sub ok.own a ha)
  have hownX : ∀ a ∈ myOf env, a ∈ W ++ X := fun a ha => List.mem_append_right _ (ownOf_sub ok.own a (myOf_own a ha))
  have hWmy : ∀ a ∈ myOf env, a ∉ W := fun a ha => hWown a (myOf_own a ha)
  refine codeAny_forLoop_any (fun n s' => ∃ i, n = cs.length - i ∧ i ≤ cs.length ∧ Ok hB (W ++ X) env (f i) s' ∧ J (W ++ X) i s' ∧ KpB (myOf env ++ W) s₂ s') ?_ (cs.length) ⟨0, by simp, Nat.zero_le _, ok2, hJ, KpB.refl⟩
  rintro n s' ⟨i, rfl, hi, ok', hJ', kp'⟩
  cases hc : cs[i]? with
  | none =>
    have hi' : i = cs.length := by
      rcases Nat.lt_or_ge i cs.length with h | h
      · rw [List.getElem?_eq_getElem h] at hc; cases hc
      · omega
    subst hi'
    refine wpAny_mono (L.done _ _ _ _ hr.handled hJ') (fun r s₃ q => ?_) fun _ _ x => x
    obtain ⟨rfl, kw⟩ := q
    refine wpAny_execs_nil ⟨rfl, ok'.leave kw hWX ok.own.locX ok.own.cellX, ?_⟩
    exact Kp.leave (KpB.trans (Kp.any kp) kp') kw (fun a ha => (hW a ha).1) (fun a h => own_live ok.own ok.xok a (myOf_own a h))
  | some c =>
    have hi' : i < cs.length := by
      rcases Nat.lt_or_ge i cs.length with h | h
      · exact h
      · rw [List.getElem?_eq_none h] at hc; cases hc
    obtain ⟨σ₁, hb, hst⟩ := turn i c hc
    refine wpAny_mono (L.item _ _ _ i c _ hc hr.handled ok'.base ok'.xok hJ') (fun r s₃ q => ?_) fun _ _ x => x
    obtain ⟨v, rfl, q⟩ := q
    refine wpAny_mono q (fun _ s₄ q => ?_) fun _ _ x => x
    obtain ⟨rv, hJ4, k4⟩ := q
    have ok4 : Ok hB (W ++ X) env (f i) s₄ := ok'.off k4 (fun a ha => List.mem_append_left _ ha) hWown
    refine wpAny_mono (hb.run _ _ _ s₄ v hr.handled ok4 rv) (fun _ s₅ q5 => ?_) fun _ _ x => x
    have hJ5 := L.frame _ _ _ _ _ _ hJ4 q5.2 hownX hWmy (fun _ h => h) (fun _ _ h => h)
    refine wpAny_mono (hst.run _ _ _ s₅ hr q5.1) (fun fl s₆ q6 => ?_) fun _ _ x => x
    obtain ⟨rfl, ok6, k6⟩ := q6
    have hJ6 := L.frame _ _ _ _ _ _ hJ5 k6 hownX hWmy (fun _ h => h) (fun _ _ h => h)
    refine ⟨cs.length - (i + 1), by omega, i + 1, rfl, hi', ok6, hJ6, ?_⟩
    exact ((kp'.trans (k4.weak fun a ha => List.mem_append_right _ ha)).trans (q5.2.weak fun a ha => List.mem_append_left _ ha)).trans (k6.weak fun a ha => List.mem_append_left _ ha)
end
end Mine

namespace Mine
open PySem PySem.W PySem.Calls PyProof.Rows
open Sem (wp)

section
variable {prog : Program} {w : World} {hB : Heap} {k : Nat} {env : Env} {σ : Sig} {mg mb : Str → Option Value}

/-- a generator's tests -/
structure Tests (prog : Program) (w : World) (hB : Heap) (k : Nat) (env : Env) (σ : Sig) (ifs : List Expr) (b : Bool) : Prop where
  run : ∀ X A E s, Room A k → Ok hB X env σ s →
  wpAny (model prog w) A (forIn ifs true fun c r => if r = true then do let ok ← isTrue c env (eval c env); pure (ForInStep.yield ok) else pure (ForInStep.yield r)) (fun b' s' => b' = b ∧ Kp s s') E s
theorem tests_nil : Tests prog w hB k env σ [] true := by
  refine ⟨?_⟩
  intro X A E s hr ok
  exact wpAny_tests_nil ⟨rfl, KpB.refl⟩
theorem tests_one {c : Expr} {b : Bool} (h : Tr prog w hB k env σ c b) : Tests prog w hB k env σ [c] b := by
  refine ⟨?_⟩
  intro X A E s hr ok
  exact wpAny_tests_one (h.run X A E s hr ok)

/-- what a turn of a generator lays down, its target bound -/
structure Emit (prog : Program) (w : World) (hB : Heap) (k : Nat) (env : Env) (elt : Expr) (gens : List Comprehension) (scope : Scope) (pos : Pos) (d : Nat) (σ : Sig) (ys : List CV) : Prop where
  run : ∀ X A E s D its cs0 (K : Sem PySem.Fin) Q, Room A k → Ok hB X env σ s → D ∈ X → D ∉ ownOf env → s.heap.PlainList D its → Rels X s.heap s.toks cs0 its.toList → cs0.length + ys.length ≤ sizeLine →
    (∀ s' its', s'.heap.PlainList D its' → Rels X s'.heap s'.toks (cs0 ++ ys) its'.toList → KpB (D :: myOf env) s s' → Ok hB X env σ s' → wpAny (model prog w) A K Q E s') →
    wpAny (model prog w) A (match gens[d + 1]? with
      | some g' => do
        let x ← eval g'.iter env
        standAt g'.iter.pos
        if (g'.is_async != 0) = true then do
          let x ← foldedIterable g'.iter x
          let it ← holding [x] (if (g'.is_async != 0) = true then asyncIter x else pyIter x)
          let _ ← runOwn (Code.compStart (elt.ListComp gens scope pos) (d + 1) it (.ref D) env) env
          K
        else do
          let x ← foldedSetIterable g'.iter env x
          let it ← holding [x] (if (g'.is_async != 0) = true then asyncIter x else pyIter x)
          let _ ← runOwn (Code.compStart (elt.ListComp gens scope pos) (d + 1) it (.ref D) env) env
          K
      | none => (eval elt env >>= fun v => call (Value.builtin "list.append") [.ref D, v] >>= fun _ => pure ()) >>= fun (_ : Unit) => K) Q E s

noncomputable def TurnS (prog : Program) (w : World) (hB : Heap) (k : Nat) (env : Env) (elt : Expr) (gens : List Comprehension) (scope : Scope) (pos : Pos) (d : Nat) (tgt : Expr) (ifs : List Expr) (σ : Sig) (c : CV) (ys : List CV) : Prop :=
  ∃ σ₁ b, Bind prog w hB env tgt c σ σ₁ ∧ (∀ y c, σ.lookup y = some c → σ₁.lookup y = some c) ∧ Tests prog w hB k env σ₁ ifs b ∧
    (b = true → Emit prog w hB k env elt gens scope pos d σ₁ ys) ∧ (b = false → ys = [])

theorem emit_last {elt : Expr} {gens : List Comprehension} {scope : Scope} {pos : Pos} {d : Nat} {c : CV} (hg : gens[d + 1]? = none) (h : Ev prog w hB k env σ elt c) : Emit prog w hB k env elt gens scope pos d σ [c] := by
  refine ⟨?_⟩
  intro X A E s D its cs0 K Q hr ok hD hDo hpl rs hsz hK
  rw [hg]
  refine wpAny_bind (wpAny_bind (wpAny_mono (h.run X A E s hr ok) (fun v s₁ q => ?_) fun _ _ x => x))
  obtain ⟨r, kp⟩ := q
  have rs1 := rs.kp (Kp.any (W := X) kp)
  have hl := rs.length
  rw [Array.length_toList] at hl
  have hpl1 : s₁.heap.PlainList D its := hpl.at fun o e => kp.get e
  refine wpAny_bind (wpAny_list_append_plain hpl1 (fun h' hpl' hs => wpAny_pure ?_) (by simp at hsz; omega))
  have k2 : KpB [D] s₁ { s₁ with heap := h' } := KpB.same (tk := s₁.toks) hs (let ⟨n, e⟩ := hpl'; ⟨_, e⟩) (Nat.le_refl _) (by simp)
  have k2X : KpB X s₁ { s₁ with heap := h' } := k2.weak (by intro a ha; rw [List.mem_singleton.mp ha]; exact hD)
  refine hK _ (its.push v) hpl' ?_ ?_ ((ok.kp kp).off k2 (by intro a ha; rw [List.mem_singleton.mp ha]; exact hD) (fun a ha hm => hDo (by rw [← List.mem_singleton.mp hm]; exact ha)))
  · rw [Array.toList_push]
    exact (rs1.kp k2X).append (Rels.one (r.kp k2X))
  · exact KpB.trans (Kp.any kp) (k2.weak (by intro a ha; rw [List.mem_singleton.mp ha]; exact List.mem_cons_self))

theorem compStart_any {elt : Expr} {gens : List Comprehension} {scope : Scope} {pos : Pos} {d : Nat} {it acc : Value} {A : Around} {s : Shared} {R : Result → Shared → Prop} {tgt iter : Expr} {ifs : List Expr} (hg : gens[d]? = some ⟨tgt, iter, ifs, 0⟩)
    (h0 : codeAny (model prog w) A (.compLoop (.ListComp elt gens scope pos) d it acc env) R s)
    (h : ∀ E, wpAny (model prog w) A (pyIter it) (fun it' s' => codeAny (model prog w) A (.compLoop (.ListComp elt gens scope pos) d it' acc env) R s') E s) :
    codeAny (model prog w) A (.compStart (.ListComp elt gens scope pos) d it acc env) R s := by
  refine codeAny_of_tree ?_
  show wpAny _ A ((compStart (.ListComp elt gens scope pos) d it acc env).onRaise (fun x => do noteFrame x env; standAt theWindowsPlace)) _ _ s
  refine wpAny_notedAt ?_
  unfold compStart
  simp only [clausesOf, hg]
  rw [if_neg (show ¬ ((some (⟨tgt, iter, ifs, 0⟩ : Comprehension)).elim false fun x => x.is_async != 0) = true from Bool.false_ne_true)]
  refine wpAny_bind (wpAny_askSetting (wpAny_ite ?_))
  split
  · exact wpAny_pure ⟨rfl, h0⟩
  · exact wpAny_bind (wpAny_rule (wpAny_bind (wpAny_standAt (wpAny_bind (wpAny_mono (h _) (fun it' s' h' => wpAny_pure ⟨rfl, h'⟩) fun _ _ x => x)))))

/-- what a generator's loop leaves -/
noncomputable def LoopPost (hB : Heap) (env : Env) (X W : List Addr) (D : Addr) (σ : Sig) (ys : List CV) (s : Shared) (r : Result) (s' : Shared) : Prop :=
  r = .ok .next ∧ ∃ s₁ its, s₁.heap.PlainList D its ∧ Rels X s₁.heap s₁.toks ys its.toList ∧ KpB (D :: myOf env ++ W) s s₁ ∧ Ok hB X env σ s₁ ∧ KpW W s₁ s'

theorem comp_loop {α : Type} (as : List α) (f : α → CV) (g : α → List CV) {elt : Expr} {gens : List Comprehension} {scope : Scope} {pos : Pos} {d : Nat} {it : Value} {tgt iter : Expr} {ifs : List Expr} {W : List Addr} {J}
    (hg : gens[d]? = some ⟨tgt, iter, ifs, 0⟩) (L : IterLaw prog w hB it W J tgt (as.map f)) (turns : ∀ a ∈ as, TurnS prog w hB k env elt gens scope pos d tgt ifs σ (f a) (g a))
    {X : List Addr} {A : Around} {s : Shared} {D : Addr} {its : Array Value} {cs0 : List CV} (hr : Room A k) (ok : Ok hB X env σ s) (hWX : ∀ a ∈ W, a ∈ X) (hWo : ∀ a ∈ ownOf env, a ∉ W) (hDW : D ∉ W) (hD : D ∈ X) (hDo : D ∉ ownOf env)
    (hJ : J X 0 s) (hpl : s.heap.PlainList D its) (rs : Rels X s.heap s.toks cs0 its.toList) (hsz : cs0.length + (as.flatMap g).length ≤ sizeLine) :
    codeAny (model prog w) A (.compLoop (.ListComp elt gens scope pos) d it (.ref D) env) (LoopPost hB env X W D σ (cs0 ++ as.flatMap g) s) s := by
  refine codeAny_loop rfl (fun n s' => ∃ i its', n = as.length - i ∧ i ≤ as.length ∧ Ok hB X env σ s' ∧ J X i s' ∧ s'.heap.PlainList D its' ∧ Rels X s'.heap s'.toks (cs0 ++ (as.take i).flatMap g) its'.toList ∧ KpB (D :: myOf env ++ W) s s') ?_ as.length
    ⟨0, its, by simp, Nat.zero_le _, ok, hJ, hpl, by simpa using rs, KpB.refl⟩
  rintro n s' ⟨i, its', rfl, hi, ok', hJ', hpl', rs', kp'⟩
  show wpAny _ A ((compTurn (.ListComp elt gens scope pos) d it (.ref D) env).onRaise (fun x => do noteFrame x env; theTreesLotGoes x)) _ _ s'
  refine wpAny_noted ?_
  unfold compTurn
  simp only [hg]
  refine wpAny_bind (wpAny_standAt ?_)
  rw [if_neg (show ¬ ((0 : Int) != 0) = true by decide)]
  have hDmy : ∀ a ∈ D :: myOf env, a ∈ X := fun a h => by
    rcases List.mem_cons.mp h with rfl | h
    · exact hD
    · exact ownOf_sub ok.own a (myOf_own a h)
  have hDmyW : ∀ a ∈ D :: myOf env, a ∉ W := fun a h => by
    rcases List.mem_cons.mp h with rfl | h
    · exact hDW
    · exact hWo a (myOf_own a h)
  cases ha : as[i]? with
  | none =>
    have hi' : i = as.length := by
      rcases Nat.lt_or_ge i as.length with h | h
      · rw [List.getElem?_eq_getElem h] at ha; cases ha
      · omega
    subst hi'
    have hJ'' : J X (as.map f).length s' := by rw [List.length_map]; exact hJ'
    refine wpAny_bind (wpAny_mono (L.done X A _ s' hr.handled hJ'') (fun r s₁ q => ?_) fun _ _ x => x)
    obtain ⟨rfl, kw⟩ := q
    refine wpAny_pure ?_
    rw [List.take_length] at rs'
    exact ⟨rfl, s', its', hpl', rs', kp', ok', kw⟩
  | some a =>
    have hi' : i < as.length := by
      rcases Nat.lt_or_ge i as.length with h | h
      · exact h
      · rw [List.getElem?_eq_none h] at ha; cases ha
    have ham : a ∈ as := List.mem_of_getElem? ha
    obtain ⟨σ₁, b, hb, hsub, ht, he1, he0⟩ := turns a ham
    have htake : (as.take (i + 1)).flatMap g = (as.take i).flatMap g ++ g a := by
      rw [List.take_add_one, ha, List.flatMap_append]; simp
    have hlen : (cs0 ++ (as.take i).flatMap g).length + (g a).length ≤ sizeLine := by
      have h1 : as.take (i + 1) ++ as.drop (i + 1) = as := List.take_append_drop _ _
      have h2 : (as.flatMap g).length = ((as.take (i + 1)).flatMap g).length + ((as.drop (i + 1)).flatMap g).length := by
        rw [← List.length_append, ← List.flatMap_append, h1]
      rw [htake, List.length_append] at h2
      rw [List.length_append]
      omega
    refine wpAny_bind (wpAny_mono (L.item X A _ i (f a) s' (by rw [List.getElem?_map, ha]; rfl) hr.handled ok'.base ok'.xok hJ') (fun r s₁ q => ?_) fun _ _ x => x)
    obtain ⟨v, rfl, q⟩ := q
    refine wpAny_bind (wpAny_mono q (fun _ s₂ q => ?_) fun _ _ x => x)
    obtain ⟨rv, hJ2, k2⟩ := q
    have ok2 := ok'.off k2 hWX hWo
    refine wpAny_bind (wpAny_mono (hb.run X A _ s₂ v hr.handled ok2 rv) (fun _ s₃ q3 => ?_) fun _ _ x => x)
    have hJ3 := L.frame _ _ _ _ _ _ hJ2 q3.2 (fun a h => hDmy a (List.mem_cons_of_mem _ h)) (fun a h => hDmyW a (List.mem_cons_of_mem _ h)) (fun _ h => h) (fun _ _ h => h)
    refine wpAny_bind (wpAny_mono (ht.run X A _ s₃ hr q3.1) (fun ok4 s₄ q4 => ?_) fun _ _ x => x)
    obtain ⟨rfl, k4⟩ := q4
    have hJ4 := L.frame _ _ _ _ _ _ hJ3 k4 (by simp) (by simp) (fun _ h => h) (fun _ _ h => h)
    have k24X : KpB X s' s₄ := ((k2.weak hWX).trans (q3.2.weak fun a h => hDmy a (List.mem_cons_of_mem _ h))).trans (Kp.any k4)
    have hpl4 : s₄.heap.PlainList D its' := hpl'.at fun o e => k4.get (q3.2.get (fun h => hDo (myOf_own _ h)) (k2.get hDW e))
    have k24 : KpB (D :: myOf env ++ W) s' s₄ := ((k2.weak fun a h => List.mem_append_right _ h).trans (q3.2.weak fun a h => List.mem_append_left _ (List.mem_cons_of_mem _ h))).trans (Kp.any k4)
    cases ok4 with
    | false =>
      rw [if_neg (by decide)]
      refine wpAny_pure ⟨rfl, as.length - (i + 1), by omega, i + 1, its', rfl, hi', (q3.1.kp k4).sub hsub, hJ4, hpl4, ?_, kp'.trans k24⟩
      rw [htake, he0 rfl, List.append_nil]; exact rs'.kp k24X
    | true =>
      rw [if_pos rfl]
      refine (he1 rfl).run X A _ s₄ D its' _ _ _ hr (q3.1.kp k4) hD hDo hpl4 (rs'.kp k24X) hlen fun s₅ its5 hpl5 rs5 k5 ok5 => ?_
      refine wpAny_pure ⟨rfl, as.length - (i + 1), by omega, i + 1, its5, rfl, hi', ok5.sub hsub, ?_, hpl5, ?_, (kp'.trans k24).trans (k5.weak fun a h => List.mem_append_left _ h)⟩
      · exact L.frame _ _ _ _ _ _ hJ4 k5 hDmy hDmyW (fun _ h => h) (fun _ _ h => h)
      · rw [htake, ← List.append_assoc]; exact rs5

theorem emit_next {α : Type} (as : List α) (f : α → CV) (g : α → List CV) {elt : Expr} {gens : List Comprehension} {scope : Scope} {pos : Pos} {d : Nat} {tgt iter : Expr} {ifs : List Expr} (hg : gens[d + 1]? = some ⟨tgt, iter, ifs, 0⟩)
    (hsrc : Src prog w hB k env σ iter tgt (as.map f)) (turns : ∀ a ∈ as, TurnS prog w hB k env elt gens scope pos (d + 1) tgt ifs σ (f a) (g a)) (hfold : ∀ x, foldedSetIterable iter env x = pure x) :
    Emit prog w hB k env elt gens scope pos d σ (as.flatMap g) := by
  refine ⟨?_⟩
  intro X A E s D its cs0 K Q hr ok hD hDo hpl rs hsz hK
  rw [hg]
  refine wpAny_bind (wpAny_mono (hsrc.run X A E s hr ok) (fun x s₁ q => wpAny_bind (wpAny_standAt ?_)) fun _ _ x => x)
  rw [if_neg (show ¬ ((0 : Int) != 0) = true by decide), hfold x]
  refine wpAny_bind (wpAny_pure (wpAny_bind (wpAny_holding ?_)))
  rw [if_neg (show ¬ ((0 : Int) != 0) = true by decide)]
  refine wpAny_mono q (fun it s₂ q => ?_) fun _ _ x => x
  obtain ⟨W, J, L, hJ, kp, hW⟩ := q
  have hWX : ∀ a ∈ W, a ∉ X := fun a ha hx => (hW a ha).1 (ok.xok a hx).2
  have hWo : ∀ a ∈ ownOf env, a ∉ W := fun a ha hw => hWX a hw (ownOf_sub ok.own a ha)
  have hDW : D ∉ W := fun h => hWX D h hD
  have ok2 : Ok hB (W ++ X) env σ s₂ := ok.widen kp hW
  have rs2 : Rels (W ++ X) s₂.heap s₂.toks cs0 its.toList := rs.move (fun a ha hn hm => by
    rcases List.mem_append.mp hm with h | h
    · exact (hW a h).1 ha
    · exact hn h) (fun b o _ e => kp.get e) kp.toks
  have hpl2 : s₂.heap.PlainList D its := hpl.at fun o e => kp.get e
  have hr2 : Room (A.mark none) k := ⟨hr.handled, hr.depth, hr.units⟩
  refine wpAny_bind (wpAny_runOwn ?_)
  have loop := comp_loop (k := k) as f g hg L turns hr2 ok2 (fun a h => List.mem_append_left _ h) hWo hDW (List.mem_append_right _ hD) hDo hJ hpl2 rs2 hsz
  refine codeAny_mono (compStart_any hg loop fun E' => L.self _ _ _ _ _ _ hJ loop) fun r s₃ q => ?_
  obtain ⟨rfl, s₁', its', hpl', rs', k', ok', kw⟩ := q
  have k3 : KpB (D :: myOf env) s s₃ := Kp.leave (KpB.trans (Kp.any kp) k') kw (fun a ha => (hW a ha).1) (fun a h => by
    rcases List.mem_cons.mp h with rfl | h
    · exact (ok.xok _ hD).2
    · exact own_live ok.own ok.xok a (myOf_own a h))
  have ok3 : Ok hB X env σ s₃ := ok'.leave kw hWX ok.own.locX ok.own.cellX
  obtain ⟨h', tk, rfl, h1, h2⟩ := kw
  exact hK _ its' (hpl'.at fun o e => h1 _ _ hDW e) (rs'.move (fun a _ hn hm => hn (List.mem_append_right _ hm)) (fun b o hb q => h1 b o (fun hw => hb (List.mem_append_left _ hw)) q) h2) k3 ok3
end
end Mine

namespace Mine
open PySem PySem.W PySem.Calls PyProof.Rows
open Sem (wp)

noncomputable def clo (env : Env) : List (Str × NameKind) → List (Str × Addr) → List (Str × Addr)
  | [], acc => acc
  | (n, k) :: r, acc => if k == .free then clo env r ((n, (env.cells.lookup n).getD 0) :: acc) else clo env r acc

/-- the frame of a comprehension -/
noncomputable def cEnv (scope : Scope) (env : Env) (C : Addr) : Env :=
  { scope := relabel scope env, locals := C, globals := env.globals, cells := cellsFrom (C + 1) scope.names (clo env scope.names []), qual := env.qual, func := none, code := env.code, frame := env.frame, builtins := env.builtins }

structure COk (scope : Scope) (env : Env) : Prop where
  kind : scope.kind = .function
  free : ∀ n, (n, NameKind.free) ∈ scope.names → (env.kindOf n = some .cell ∨ env.kindOf n = some .free) ∧ (env.cells.lookup n).isSome = true ∧ scope.names.lookup n = some .free ∧ (n, NameKind.cell) ∉ scope.names
  loc : ∀ n, (n, NameKind.local) ∈ scope.names → scope.names.lookup n = some .local
noncomputable def compOk (scope : Scope) (env : Env) : Bool :=
  (match scope.kind with | .function => true | _ => false) && scope.names.all fun p => match p.2 with
    | .free => (env.kindOf p.1 == some .cell || env.kindOf p.1 == some .free) && (env.cells.lookup p.1).isSome && scope.names.lookup p.1 == some .free && !(scope.names.any fun q => q.1 == p.1 && q.2 == .cell)
    | .local => scope.names.lookup p.1 == some .local
    | _ => true
theorem COk.of {scope : Scope} {env : Env} (h : compOk scope env = true) : COk scope env := by
  unfold compOk at h
  rw [Bool.and_eq_true] at h
  obtain ⟨h1, h2⟩ := h
  rw [List.all_eq_true] at h2
  refine ⟨?_, fun n hn => ?_, fun n hn => ?_⟩
  · revert h1; cases scope.kind <;> simp
  · have := h2 _ hn
    simp only [Bool.and_eq_true, Bool.or_eq_true, beq_iff_eq, Bool.not_eq_true', List.any_eq_false] at this
    refine ⟨this.1.1.1, this.1.1.2, this.1.2, fun hc => ?_⟩
    exact this.2 _ hc ⟨rfl, rfl⟩
  · have := h2 _ hn
    simpa using this

section
variable {M : Model} {A : Around} {E : Value → Shared → Prop} {s : Shared} {env : Env} {scope : Scope}

theorem closureLoop (f : Str × NameKind → List (Str × Addr) → Sem (ForInStep (List (Str × Addr))))
    (hf : ∀ n k cs, f (n, k) cs = if k == .free then (do let a ← cellOf env n; pure (.yield ((n, a) :: cs))) else pure (.yield cs)) :
    ∀ (names : List (Str × NameKind)) (acc : List (Str × Addr)), (∀ n, (n, NameKind.free) ∈ names → (env.cells.lookup n).isSome = true) → forIn names acc f = (pure (clo env names acc) : Sem _)
  | [], acc, _ => by rw [List.forIn_nil]; rfl
  | (n, k) :: r, acc, h => by
    have hr : ∀ n, (n, NameKind.free) ∈ r → (env.cells.lookup n).isSome = true := fun n hn => h n (List.mem_cons_of_mem _ hn)
    rw [List.forIn_cons, hf]
    unfold clo
    by_cases hk : (k == .free) = true
    · rw [if_pos hk, if_pos hk]
      have hk' : k = .free := by simpa using hk
      obtain ⟨a, ha⟩ := Option.isSome_iff_exists.mp (h n (by rw [hk']; exact List.mem_cons_self))
      have e : cellOf env n = pure a := by unfold cellOf; rw [ha]
      rw [e, ha]
      exact closureLoop f hf r _ hr
    · rw [if_neg hk, if_neg hk]
      exact closureLoop f hf r _ hr
theorem closure_ok (h : COk scope env) : closureFor scope env = pure (clo env scope.names []) := by
  simp only [closureFor]
  rw [closureLoop _ (fun n k cs => rfl) scope.names [] fun n hn => (h.free n hn).2.1]
  rfl

theorem clo_some {x : Str} {c : Addr} : ∀ (names : List (Str × NameKind)) (acc : List (Str × Addr)), (∀ n, (n, NameKind.free) ∈ names → (env.cells.lookup n).isSome = true) → (clo env names acc).lookup x = some c → env.cells.lookup x = some c ∨ acc.lookup x = some c
  | [], _, _, h => .inr h
  | (n, k) :: r, acc, hh, h => by
    have hr : ∀ n, (n, NameKind.free) ∈ r → (env.cells.lookup n).isSome = true := fun n hn => hh n (List.mem_cons_of_mem _ hn)
    unfold clo at h
    by_cases hk : (k == .free) = true
    · rw [if_pos hk] at h
      have hk' : k = .free := by simpa using hk
      obtain ⟨a, ha⟩ := Option.isSome_iff_exists.mp (hh n (by rw [hk']; exact List.mem_cons_self))
      rcases clo_some r _ hr h with q | q
      · exact .inl q
      · rw [List.lookup_cons] at q
        cases e : x == n with
        | true => rw [e, ha] at q; cases q; rw [beq_iff_eq.mp e]; exact .inl ha
        | false => rw [e] at q; exact .inr q
    · rw [if_neg hk] at h
      exact clo_some r acc hr h
theorem clo_hit {x : Str} {c : Addr} (hx : env.cells.lookup x = some c) : ∀ (names : List (Str × NameKind)) (acc : List (Str × Addr)), ((x, NameKind.free) ∈ names ∨ acc.lookup x = some c) → (clo env names acc).lookup x = some c
  | [], _, h => h.elim (fun h => nomatch h) id
  | (n, k) :: r, acc, h => by
    unfold clo
    by_cases hk : (k == .free) = true
    · rw [if_pos hk]
      refine clo_hit hx r _ ?_
      rcases h with h | h
      · rcases List.mem_cons.mp h with e | h
        · cases e; refine .inr ?_; rw [List.lookup_cons, beq_self_eq_true, hx]; rfl
        · exact .inl h
      · refine .inr ?_
        rw [List.lookup_cons]
        cases e : x == n with
        | true => rw [← beq_iff_eq.mp e, hx]; rfl
        | false => exact h
    · rw [if_neg hk]
      refine clo_hit hx r _ ?_
      rcases h with h | h
      · rcases List.mem_cons.mp h with e | h
        · cases e; exact absurd rfl hk
        · exact .inl h
      · exact .inr h
theorem cells_miss {x : Str} : ∀ (names : List (Str × NameKind)) (n : Nat) (acc : List (Str × Addr)), (x, NameKind.cell) ∉ names → (cellsFrom n names acc).lookup x = acc.lookup x
  | [], _, _, _ => rfl
  | (y, k) :: r, n, acc, h => by
    rw [List.mem_cons, not_or] at h
    unfold cellsFrom
    by_cases hk : (k == .cell) = true
    · rw [if_pos hk, cells_miss r _ _ h.2, List.lookup_cons]
      have hk' : k = .cell := by simpa using hk
      cases e : x == y with
      | true => exact absurd (by rw [beq_iff_eq.mp e, hk']) h.1
      | false => rfl
    · rw [if_neg hk, cells_miss r _ _ h.2]
theorem cells_laid {x : Str} {c : Addr} : ∀ (names : List (Str × NameKind)) (h : Heap) (acc : List (Str × Addr)), (cellsFrom h.objs.size names acc).lookup x = some c → ((pushCells h names).IsCell c none ∧ h.objs.size ≤ c) ∨ acc.lookup x = some c
  | [], _, _, e => .inr e
  | (y, k) :: r, h, acc, e => by
    unfold cellsFrom at e
    unfold pushCells
    by_cases hk : (k == .cell) = true
    · rw [if_pos hk] at e ⊢
      have := cells_laid r (h.push { cls := .type "cell", data := .cell none }) ((y, h.objs.size) :: acc) (by rw [Heap.size_push]; exact e)
      rw [Heap.size_push] at this
      rcases this with q | q
      · exact .inl ⟨q.1, Nat.le_of_succ_le q.2⟩
      · rw [List.lookup_cons] at q
        cases e : x == y with
        | true =>
          rw [e] at q; cases q
          exact .inl ⟨⟨_, pushCells_keeps _ _ _ _ (Heap.get?_push_size _ rfl), rfl⟩, Nat.le_refl _⟩
        | false => rw [e] at q; exact .inr q
    · rw [if_neg hk] at e ⊢
      exact cells_laid r h acc e
theorem cells_apart : ∀ (names : List (Str × NameKind)) (n : Nat) (acc : List (Str × Addr)), (∀ x c, acc.lookup x = some c → c < n) → (∀ x y c, acc.lookup x = some c → acc.lookup y = some c → x = y) →
    ∀ x y c, (cellsFrom n names acc).lookup x = some c → (cellsFrom n names acc).lookup y = some c → x = y
  | [], _, _, _, h => h
  | (z, k) :: r, n, acc, h1, h2 => by
    unfold cellsFrom
    by_cases hk : (k == .cell) = true
    · rw [if_pos hk]
      refine cells_apart r (n + 1) _ ?_ ?_
      · intro x c e
        rw [List.lookup_cons] at e
        cases q : x == z with
        | true => rw [q] at e; cases e; exact Nat.lt_succ_self _
        | false => rw [q] at e; exact Nat.lt_succ_of_lt (h1 x c e)
      · intro x y c e1 e2
        rw [List.lookup_cons] at e1 e2
        cases q : x == z with
        | true =>
          rw [q] at e1; cases e1
          cases q2 : y == z with
          | true => rw [beq_iff_eq.mp q, beq_iff_eq.mp q2]
          | false => rw [q2] at e2; exact absurd (h1 y n e2) (Nat.lt_irrefl _)
        | false =>
          rw [q] at e1
          cases q2 : y == z with
          | true => rw [q2] at e2; cases e2; exact absurd (h1 x n e1) (Nat.lt_irrefl _)
          | false => rw [q2] at e2; exact h2 x y c e1 e2
    · rw [if_neg hk]
      exact cells_apart r n acc h1 h2

theorem newEnvC {cl : List (Str × Addr)} {Q : Env → Shared → Prop}
    (hQ : Q { scope, locals := s.heap.objs.size, globals := env.globals, cells := cellsFrom (s.heap.objs.size + 1) scope.names cl, qual := env.qual, func := none, code := env.code, frame := env.frame, builtins := env.builtins }
      { s with heap := pushCells (s.heap.push { cls := .type "dict", data := .dict #[] }) scope.names }) :
    wpAny M A (newFunctionEnv scope env.globals cl [] env.qual none .none (some env)) Q E s := by
  simp only [newFunctionEnv, Option.isSome_some, if_true]
  refine wpAny_bind (wpAny_alloc ?_)
  refine wpAny_bind (wpAny_layCells _ (fun name kind cells => by cases hkc : kind == NameKind.cell <;> simp [hkc]) _ _ _ _ ?_)
  rw [show ({ s with heap := s.heap.push { cls := .type "dict", data := .dict #[] } } : Shared).heap.objs.size = s.heap.objs.size + 1 from Heap.size_push ..]
  exact wpAny_pure hQ

theorem lookup_mapK (f : Str → NameKind → NameKind) {x : Str} : ∀ (l : List (Str × NameKind)), (l.map fun p => (p.1, f p.1 p.2)).lookup x = (l.lookup x).map (f x)
  | [] => rfl
  | (n, k) :: r => by
    rw [List.map_cons, List.lookup_cons, List.lookup_cons]
    cases e : x == n with
    | true => rw [beq_iff_eq.mp e]; rfl
    | false => exact lookup_mapK f r
theorem relabel_lookup {x : Str} : (relabel scope env).names.lookup x = (scope.names.lookup x).map fun k => if (k == .free && env.scope.kind == .function && env.kindOf x == some .cell) then .cell else k := by
  have e : (relabel scope env).names = scope.names.map fun p => (p.1, (fun n k => if (k == NameKind.free && env.scope.kind == .function && env.kindOf n == some .cell) then NameKind.cell else k) p.1 p.2) := by
    unfold relabel
    refine List.map_congr_left fun p _ => ?_
    obtain ⟨n, k⟩ := p
    dsimp only
    split <;> rfl
  rw [e]
  exact lookup_mapK (fun n k => if (k == NameKind.free && env.scope.kind == .function && env.kindOf n == some .cell) then NameKind.cell else k) scope.names
end

section
variable {prog : Program} {w : World} {hB : Heap} {k : Nat} {env : Env} {σ : Sig} {mg mb : Str → Option Value}

theorem pushCells_live {names : List (Str × NameKind)} {h : Heap} {a : Addr} (x : Live h a) : Live (pushCells h names) a := let ⟨o, e⟩ := x; ⟨o, pushCells_keeps _ _ _ _ e⟩

/-- the comprehension's frame, fresh -/
theorem cEnv_ok {scope : Scope} (hc : COk scope env) {σc : Sig} (hσ : ∀ x c, σc.lookup x = some c → σ.lookup x = some c ∧ (x, NameKind.free) ∈ scope.names) {X : List Addr} {s : Shared} (ok : Ok hB X env σ s) {h1 : Heap} (k1 : ∀ b o, s.heap.get? b = some o → h1.get? b = some o) :
    Ok hB (ownOf (cEnv scope env h1.objs.size) ++ X) (cEnv scope env h1.objs.size) σc { s with heap := pushCells (h1.push { cls := .type "dict", data := .dict #[] }) scope.names } ∧
      (∀ a ∈ myOf (cEnv scope env h1.objs.size), ¬ Live h1 a) ∧ (∀ a ∈ ownOf (cEnv scope env h1.objs.size), ¬ Live h1 a ∨ a ∈ ownOf env) := by
  have kp : Kp s { s with heap := pushCells (h1.push { cls := .type "dict", data := .dict #[] }) scope.names } := Kp.of (fun b o e => pushCells_keeps _ _ _ _ (Heap.get?_push_of_some _ (k1 b o e))) (Nat.le_refl s.toks)
  have ok2 := ok.kp kp
  have hsz : (h1.push { cls := .type "dict", data := .dict #[] }).objs.size = h1.objs.size + 1 := Heap.size_push ..
  have hfree : ∀ n, (n, NameKind.free) ∈ scope.names → (env.cells.lookup n).isSome = true := fun n hn => (hc.free n hn).2.1
  -- a cell that a name finds
  have hcase : ∀ x c, (cEnv scope env h1.objs.size).cells.lookup x = some c → ((pushCells (h1.push { cls := .type "dict", data := .dict #[] }) scope.names).IsCell c none ∧ h1.objs.size + 1 ≤ c) ∨ env.cells.lookup x = some c := fun x c e => by
    have e' : (cellsFrom (h1.push { cls := .type "dict", data := .dict #[] }).objs.size scope.names (clo env scope.names [])).lookup x = some c := by rw [hsz]; exact e
    rcases cells_laid _ _ _ e' with q | q
    · rw [hsz] at q; exact .inl q
    · rcases clo_some _ _ hfree q with q | q
      · exact .inr q
      · cases q
  have hfresh : ∀ a, h1.objs.size ≤ a → ¬ Live h1 a := fun a ha ⟨o, e⟩ => Nat.lt_irrefl _ (Nat.lt_of_lt_of_le (Heap.lt_size e) ha)
  have hnl : ∀ a, ¬ Live h1 a → ¬ Live s.heap a := fun a h ⟨o, e⟩ => h ⟨o, k1 a o e⟩
  have hoc : ∀ a ∈ ownOf (cEnv scope env h1.objs.size), ¬ Live h1 a ∨ a ∈ ownOf env := fun a h => by
    rcases List.mem_cons.mp h with rfl | h
    · exact .inl (hfresh _ (Nat.le_refl _))
    · obtain ⟨p, hp, rfl⟩ := List.mem_map.mp h
      have hp2 := (List.mem_filter.mp hp).2
      rcases hcase p.1 p.2 (by simpa using hp2) with q | q
      · exact .inl (hfresh _ (Nat.le_of_succ_le q.2))
      · exact .inr (ownOf_cell q)
  have hlive : ∀ a ∈ ownOf (cEnv scope env h1.objs.size), Live (pushCells (h1.push { cls := .type "dict", data := .dict #[] }) scope.names) a := fun a h => by
    rcases List.mem_cons.mp h with rfl | h
    · exact pushCells_live ⟨_, Heap.get?_push_size _ rfl⟩
    · obtain ⟨p, hp, rfl⟩ := List.mem_map.mp h
      have hp2 := (List.mem_filter.mp hp).2
      rcases hcase p.1 p.2 (by simpa using hp2) with q | q
      · obtain ⟨o, ho, _⟩ := q.1; exact ⟨o, ho⟩
      · obtain ⟨v, o, ho, _⟩ := ok2.own.cell _ _ q; exact ⟨o, ho⟩
  refine ⟨⟨ok2.base, ?_, ?_, ?_⟩, ?_, hoc⟩
  · intro y hy
    rcases List.mem_append.mp hy with h | h
    · refine ⟨?_, hlive y h⟩
      rcases hoc y h with q | q
      · cases e : hB.get? y with
        | none => rfl
        | some o => exact absurd ⟨o, ok.base.keep _ _ e⟩ (hnl y q)
      · exact (ok2.xok y (ownOf_sub ok2.own y q)).1
    · exact ok2.xok y h
  · refine { kind := hc.kind, globals := ok2.own.globals, builtins := ok2.own.builtins, ns := ⟨_, (Heap.Ns.new h1 (.type "dict")).keeps fun b o e => pushCells_keeps _ _ _ _ e⟩, locX := List.mem_append_left _ List.mem_cons_self, cell := ?_, cellX := ?_, apart := ?_ }
    · intro x c e
      rcases hcase x c e with q | q
      · exact ⟨_, q.1⟩
      · exact ok2.own.cell x c q
    · intro x c e
      exact List.mem_append_left _ (ownOf_cell e)
    · refine cells_apart _ _ _ ?_ ?_
      · intro x c e
        rcases clo_some _ _ hfree e with q | q
        · obtain ⟨v, o, ho, _⟩ := ok.own.cell x c q
          exact Nat.lt_succ_of_lt (Heap.lt_size (k1 _ _ ho))
        · cases q
      · intro x y c e1 e2
        rcases clo_some _ _ hfree e1 with q | q
        · rcases clo_some _ _ hfree e2 with q2 | q2
          · exact ok.own.apart x y c q q2
          · cases q2
        · cases q
  · intro x c e
    obtain ⟨e1, hm⟩ := hσ x c e
    obtain ⟨v, hv, r⟩ := ok.st x c e1
    obtain ⟨hk, hs, hl, hnc⟩ := hc.free x hm
    refine ⟨v, ?_, r.move (fun a ha hn hx => ?_) (fun b o _ q => kp.get q) kp.toks⟩
    · rcases hv with ⟨hk', _⟩ | ⟨_, c', e', hcell⟩
      · rw [hk'] at hk; rcases hk with h | h <;> cases h
      · refine .inr ⟨?_, c', ?_, hcell.keeps fun b o q => kp.get q⟩
        · have hk2 : (cEnv scope env h1.objs.size).kindOf x = _ := relabel_lookup (scope := scope) (env := env) (x := x)
          rw [hk2, hl]
          simp only [Option.map_some]
          by_cases q : ((NameKind.free == NameKind.free) && (env.scope.kind == .function) && (env.kindOf x == some .cell)) = true
          · rw [if_pos q]; exact .inl rfl
          · rw [if_neg q]; exact .inr rfl
        · show (cellsFrom _ scope.names (clo env scope.names [])).lookup x = some c'
          rw [cells_miss _ _ _ hnc]
          exact clo_hit e' _ _ (.inl hm)
    · rcases List.mem_append.mp hx with h | h
      · rcases hoc a h with q | q
        · exact hnl a q ha
        · exact hn (ownOf_sub ok.own a q)
      · exact hn h
  · intro a h
    rcases List.mem_cons.mp h with rfl | h
    · exact hfresh _ (Nat.le_refl _)
    · obtain ⟨p, hp, rfl⟩ := List.mem_map.mp h
      have hp2 := (List.mem_filter.mp hp).2
      rw [Bool.and_eq_true] at hp2
      refine hfresh _ (Nat.le_of_lt ?_)
      have := hp2.2
      exact of_decide_eq_true this
end
end Mine

namespace Mine
open PySem PySem.W PySem.Calls PyProof.Rows
open Sem (wp)

theorem Kp.fresh {Z W : List Addr} {s s4 s1 s' : Shared} (k0 : Kp s s4) (k1 : KpB Z s4 s1) (k2 : KpW W s1 s') (hZ : ∀ a ∈ Z, ¬ Live s.heap a) (hW : ∀ a ∈ W, ¬ Live s.heap a) : Kp s s' := by
  obtain ⟨h0, t0, rfl, a0, b0, c0⟩ := k0
  obtain ⟨h1, t1, rfl, a1, b1, c1⟩ := k1
  obtain ⟨h2, t2, rfl, a2, c2⟩ := k2
  refine Kp.of (tk := t2) (fun b o e => ?_) (Nat.le_trans c0 (Nat.le_trans c1 c2))
  exact a2 b o (fun h => hW b h ⟨o, e⟩) (a1 b o (fun h => hZ b h ⟨o, e⟩) (a0 b o (by simp) e))

section
variable {prog : Program} {w : World} {hB : Heap} {k : Nat} {env : Env} {σ : Sig} {mg mb : Str → Option Value}

theorem comp_run {α : Type} (as : List α) (f : α → CV) (g : α → List CV) {elt : Expr} {rest : List Comprehension} {scope : Scope} {pos : Pos} {tgt iter : Expr} {ifs : List Expr} {σc : Sig}
    (hc : COk scope env) (hσ : ∀ x c, σc.lookup x = some c → σ.lookup x = some c ∧ (x, NameKind.free) ∈ scope.names) (hsrc : Src prog w hB k env σ iter tgt (as.map f))
    (turns : ∀ C, ∀ a ∈ as, TurnS prog w hB k (cEnv scope env C) elt (⟨tgt, iter, ifs, 0⟩ :: rest) scope pos 0 tgt ifs σc (f a) (g a)) (hsz : (as.flatMap g).length ≤ sizeLine)
    {X : List Addr} {A : Around} {E : Value → Shared → Prop} {s : Shared} (hr : Room A k) (ok : Ok hB X env σ s) {RR : Value → Addr → Result → Shared → Prop}
    (hRR : ∀ D C s' its m, ¬ Live s.heap C → ¬ Live s.heap D → D ≠ C → s'.heap.Ns C m → s'.heap.PlainList D its → Rels ([C] ++ X) s'.heap s'.toks (as.flatMap g) its.toList → Kp s s' → Ok hB ([C] ++ X) env σ s' → RR (.ref D) C (.ok .next) s') :
    wpAny (model prog w) A (eval iter env) (fun x s₁ => wpAny (model prog w) A (pyIter x) (fun it s₂ => wpAny (model prog w) A (newList []) (fun acc s₃ =>
      wpAny (model prog w) A (newFunctionEnv scope env.globals (clo env scope.names []) [] env.qual none .none (some env)) (fun cenv s₄ =>
        codeAny (model prog w) A (.compStart (.ListComp elt (⟨tgt, iter, ifs, 0⟩ :: rest) scope pos) 0 it acc { cenv with scope := relabel scope env }) (RR acc cenv.locals) s₄) E s₃) E s₂) E s₁) E s := by
  refine wpAny_mono (hsrc.run X A E s hr ok) (fun x s₁ q => wpAny_mono q (fun it s₂ q => ?_) fun _ _ x => x) fun _ _ x => x
  obtain ⟨W, J, L, hJ, kp, hW⟩ := q
  refine wpAny_newObj_type (newEnvC ?_)
  have ok2 : Ok hB (W ++ X) env σ s₂ := ok.widen kp hW
  generalize hs3 : ({ s₂ with heap := s₂.heap.push { cls := .type "list", dict := none, data := .seq ([] : List Value).toArray } } : Shared) = s₃
  have k23 : Kp s₂ s₃ := by rw [← hs3]; exact Kp.push
  have hDs2 : ¬ Live s₂.heap s₂.heap.objs.size := not_live_size
  have hDs3 : s₃.heap.PlainList s₂.heap.objs.size #[] := by rw [← hs3]; exact ⟨_, Heap.get?_push_size _ rfl⟩
  generalize s₂.heap.objs.size = D at hDs2 hDs3
  have hDl : Live s₃.heap D := let ⟨n, e⟩ := hDs3; ⟨_, e⟩
  have ok3 : Ok hB ([D] ++ (W ++ X)) env σ s₃ := ok2.widen k23 fun a ha => by rw [List.mem_singleton.mp ha]; exact ⟨hDs2, hDl⟩
  obtain ⟨ok4, hmy, hown⟩ := cEnv_ok hc hσ ok3 (h1 := s₃.heap) (fun _ _ e => e)
  have k34 : Kp s₃ { s₃ with heap := pushCells (s₃.heap.push { cls := .type "dict", data := .dict #[] }) scope.names } := Kp.of (fun b o e => pushCells_keeps _ _ _ _ (Heap.get?_push_of_some _ e)) (Nat.le_refl _)
  have e4 : ({ s₂ with heap := pushCells (s₃.heap.push { cls := .type "dict", data := .dict #[] }) scope.names } : Shared) = { s₃ with heap := pushCells (s₃.heap.push { cls := .type "dict", data := .dict #[] }) scope.names } := by rw [← hs3]
  show codeAny _ A (.compStart _ 0 it (.ref D) (cEnv scope env s₃.heap.objs.size)) (RR (.ref D) s₃.heap.objs.size) { s₃ with heap := pushCells (s₃.heap.push { cls := .type "dict", data := .dict #[] }) scope.names }
  generalize ({ s₃ with heap := pushCells (s₃.heap.push { cls := .type "dict", data := .dict #[] }) scope.names } : Shared) = s₄ at ok4 k34
  have hCs3 : ¬ Live s₃.heap s₃.heap.objs.size := not_live_size
  generalize s₃.heap.objs.size = C at ok4 hmy hown hCs3
  have k24 := k23.trans k34
  have live23 : ∀ a, Live s₂.heap a → Live s₃.heap a := fun a h => k23.live h
  have liveS : ∀ a, Live s.heap a → Live s₂.heap a := fun a h => kp.live h
  have hownS : ∀ a ∈ ownOf env, Live s.heap a := own_live ok.own ok.xok
  have hWo : ∀ a ∈ ownOf (cEnv scope env C), a ∉ W := fun a h hw => by
    rcases hown a h with q | q
    · exact q (live23 a (hW a hw).2)
    · exact (hW a hw).1 (hownS a q)
  have hDo : D ∉ ownOf (cEnv scope env C) := fun h => by
    rcases hown D h with q | q
    · exact q hDl
    · exact hDs2 (liveS D (hownS D q))
  have hDW : D ∉ W := fun h => hDs2 (hW D h).2
  have hWX4 : ∀ a ∈ W, a ∈ ownOf (cEnv scope env C) ++ ([D] ++ (W ++ X)) := fun a h => List.mem_append_right _ (List.mem_append_right _ (List.mem_append_left _ h))
  have hJ4 : J (ownOf (cEnv scope env C) ++ ([D] ++ (W ++ X))) 0 s₄ := L.frame _ _ _ _ _ _ hJ k24 (by simp) (by simp) (fun a h => List.mem_append_right _ (List.mem_append_right _ h)) (fun a ha hn hm => by
    rcases List.mem_append.mp hm with h | h
    · rcases hown a h with q | q
      · exact q (live23 a ha)
      · exact hn (List.mem_append_right _ (ownOf_sub ok.own a q))
    · rcases List.mem_append.mp h with h | h
      · rw [List.mem_singleton.mp h] at ha; exact hDs2 ha
      · exact hn h)
  have hpl4 : s₄.heap.PlainList D #[] := hDs3.at fun o e => k34.get e
  have loop := comp_loop (k := k) (cs0 := []) as f g (elt := elt) (gens := ⟨tgt, iter, ifs, 0⟩ :: rest) (scope := scope) (pos := pos) (d := 0) rfl L (turns C) hr ok4 hWX4 hWo hDW (List.mem_append_right _ (List.mem_append_left _ List.mem_cons_self)) hDo hJ4 hpl4 rfl (by simpa using hsz)
  refine codeAny_mono (compStart_any (gens := ⟨tgt, iter, ifs, 0⟩ :: rest) (d := 0) rfl loop fun E' => L.self _ _ _ _ _ _ hJ4 loop) fun r s₅ q => ?_
  obtain ⟨rfl, s₁', its', hpl', rs', k', ok', kw⟩ := q
  have hCS : ¬ Live s.heap C := fun h => hCs3 (live23 C (liveS C h))
  have hDS : ¬ Live s.heap D := fun h => hDs2 (liveS D h)
  have kS : Kp s s₅ := by
    refine Kp.fresh (kp.trans k24) k' kw (fun a h => ?_) (fun a h => (hW a h).1)
    rcases List.mem_append.mp h with h | h
    · rcases List.mem_cons.mp h with rfl | h
      · exact hDS
      · exact fun hl => hmy a h (live23 a (liveS a hl))
    · exact (hW a h).1
  have hCW : C ∉ W := hWo C List.mem_cons_self
  obtain ⟨m, hm⟩ := ok'.own.ns
  obtain ⟨h5, t5, rfl, a5, c5⟩ := kw
  have hns : h5.Ns C m := by
    obtain ⟨o, es, ep, e, r⟩ := hm
    exact ⟨o, es, ep, a5 _ _ hCW e, r⟩
  refine hRR D C _ its' m hCS hDS (fun h => hCs3 (h ▸ hDl)) hns (hpl'.at fun o e => a5 _ _ hDW e) ?_ kS (ok.widen kS fun a ha => by
    rw [List.mem_singleton.mp ha]; exact ⟨hCS, let ⟨o, _, _, e, _⟩ := hns; ⟨o, e⟩⟩)
  refine rs'.move (fun a _ hn hm => hn ?_) (fun b o hb q => a5 b o (fun hw => hb (hWX4 b hw)) q) c5
  rcases List.mem_append.mp hm with h | h
  · rw [List.mem_singleton.mp h]; exact List.mem_append_left _ List.mem_cons_self
  · exact List.mem_append_right _ (List.mem_append_right _ (List.mem_append_right _ h))

theorem ev_comp {α : Type} (as : List α) (f : α → CV) (g : α → List CV) {elt : Expr} {rest : List Comprehension} {scope : Scope} {pos : Pos} {tgt iter : Expr} {ifs : List Expr} (σc : Sig)
    (hc : compOk scope env = true) (hσ : ∀ x c, σc.lookup x = some c → σ.lookup x = some c ∧ (x, NameKind.free) ∈ scope.names) (hsrc : Src prog w hB k env σ iter tgt (as.map f))
    (turns : ∀ C, ∀ a ∈ as, TurnS prog w hB k (cEnv scope env C) elt (⟨tgt, iter, ifs, 0⟩ :: rest) scope pos 0 tgt ifs σc (f a) (g a)) (hsz : (as.flatMap g).length ≤ sizeLine)
    (hfold : ∀ x, foldedSetIterable iter env x = pure x) : Ev prog w hB k env σ (.ListComp elt (⟨tgt, iter, ifs, 0⟩ :: rest) scope pos) (.list (as.flatMap g)) := by
  refine ⟨?_⟩
  intro X A E s hr ok
  have hcc := COk.of hc
  rw [eval_ListComp]
  refine wpAny_comprehension_free (use := none) (gs := rest) rfl hfold (closure_ok hcc) hcc.kind (fun y hy hl => hcc.loc y.1 (by rw [← hl]; exact hy)) ?_
  refine comp_run as f g hcc hσ hsrc turns hsz hr ok (RR := fun acc C => compPost (model prog w) A E none _ acc C) fun D C s' its m hCS hDS hDC hns hl rs kp ok' => ?_
  refine ⟨m, hns, fun h' hsb => ⟨⟨D, its, rfl, fun hx => hDS (ok.xok D hx).2, hl.extBut hsb.extBut hDC, ?_⟩, ?_⟩⟩
  · exact rs.move (fun a _ hn hm => hn (List.mem_append_right _ hm)) (fun b o hb q => hsb.extBut b o (fun e => hb (by simp [e])) q) (Nat.le_refl _)
  · obtain ⟨h1, t1, rfl, a1, b1, c1⟩ := kp
    exact Kp.of (tk := t1) (fun b o e => hsb.extBut b o (fun q => hCS (q ▸ ⟨o, e⟩)) (a1 b o (by simp) e)) c1

/-- a name given a comprehension's list, the frame's own name -/
theorem step_setC {α : Type} (as : List α) (f : α → CV) (g : α → List CV) {y : Str} {py spos : Pos} {elt : Expr} {rest : List Comprehension} {scope : Scope} {pos : Pos} {tgt iter : Expr} {ifs : List Expr} (σc : Sig)
    (hsw : swapsWith (.ListComp elt (⟨tgt, iter, ifs, 0⟩ :: rest) scope pos) (some (.Name y py)) spos.line env = pure true) (hs : ∃ a, Slot env y a)
    (hc : compOk scope env = true) (hσ : ∀ x c, σc.lookup x = some c → σ.lookup x = some c ∧ (x, NameKind.free) ∈ scope.names) (hsrc : Src prog w hB k env σ iter tgt (as.map f))
    (turns : ∀ C, ∀ a ∈ as, TurnS prog w hB k (cEnv scope env C) elt (⟨tgt, iter, ifs, 0⟩ :: rest) scope pos 0 tgt ifs σc (f a) (g a)) (hsz : (as.flatMap g).length ≤ sizeLine)
    (hfold : ∀ x, foldedSetIterable iter env x = pure x) : Step1 prog w hB k env σ (.Assign [.Name y py] (.ListComp elt (⟨tgt, iter, ifs, 0⟩ :: rest) scope pos) spos) ((y, .list (as.flatMap g)) :: σ) := by
  refine ⟨?_⟩
  intro X A E s hr ok
  have hcc := COk.of hc
  obtain ⟨a, hs⟩ := hs
  rw [exec_Assign_Name_used _ _ _ _ hsw]
  refine wpAny_bind (wpAny_standAt (wpAny_bind ?_))
  show wpAny _ A (do let _ ← comprehension (.ListComp elt (⟨tgt, iter, ifs, 0⟩ :: rest) scope pos) scope env _ (newList []) false (eval iter env) (some (assign (.Name y py) env))) _ _ s
  refine wpAny_bind (wpAny_mono (wpAny_comprehension_free (use := some (assign (.Name y py) env)) (gs := rest) (Q := fun _ s' => Ok hB X env ((y, .list (as.flatMap g)) :: σ) s' ∧ KpB (myOf env) s s') rfl hfold (closure_ok hcc) hcc.kind (fun y hy hl => hcc.loc y.1 (by rw [← hl]; exact hy)) ?_) (fun _ s' q => wpAny_pure (wpAny_pure ⟨rfl, q⟩)) fun _ _ x => x)
  refine comp_run as f g hcc hσ hsrc turns hsz hr ok (RR := fun acc C => compPost (model prog w) A E (some (assign (.Name y py) env)) _ acc C) fun D C s' its m hCS hDS hDC hns hl rs kp ok' => ?_
  have hDX : D ∉ [C] ++ X := fun hx => by
    rcases List.mem_append.mp hx with h | h
    · exact hDC (List.mem_singleton.mp h)
    · exact hDS (ok.xok D h).2
  have haS : Live s.heap a := own_live ok.own ok.xok a (myOf_own a (slot_own hs))
  have hCa : C ≠ a := fun h => hCS (h ▸ haS)
  refine wpAny_mono (assign_ok (c := .list (as.flatMap g)) ok' hs ⟨D, its, rfl, hDX, hl, rs⟩) (fun _ s'' q => ?_) fun _ _ x => x
  obtain ⟨ok2, k2⟩ := q
  obtain ⟨o, es, ep, e, r⟩ := hns
  refine ⟨m, ⟨o, es, ep, k2.get (by simpa using hCa) e, r⟩, fun h' hsb => ?_⟩
  have kw : KpW [C] s'' { s'' with heap := h' } := KpW.ext hsb.extBut (by simp)
  refine ⟨ok2.leave kw (fun b hb hx => ?_) ok.own.locX ok.own.cellX, ?_⟩
  · rw [List.mem_singleton.mp hb] at hx; exact hCS (ok.xok C hx).2
  · refine Kp.leave (W := [C]) ((KpB.trans (Kp.any kp) k2).weak fun b hb => List.mem_append_left _ ?_) kw (fun b hb => ?_) (fun b hb => own_live ok.own ok.xok b (myOf_own b hb))
    · rw [List.mem_singleton.mp hb]; exact slot_own hs
    · rw [List.mem_singleton.mp hb]; exact hCS
end
end Mine

namespace Mine
open PySem PySem.W PySem.Calls PyProof.Rows
open Sem (wp)

-- a sorted list is known by what it holds
section
variable {α : Type} (le : α → α → Bool)
noncomputable def insS (x : α) : List α → List α
  | [] => [x]
  | y :: r => if le x y then x :: y :: r else y :: insS x r
noncomputable def isort : List α → List α
  | [] => []
  | x :: r => insS le x (isort r)
theorem insS_perm (x : α) : ∀ l : List α, (insS le x l).Perm (x :: l)
  | [] => List.Perm.refl _
  | y :: r => by
    unfold insS
    split
    · exact List.Perm.refl _
    · exact ((insS_perm x r).cons y).trans (List.Perm.swap x y r)
theorem isort_perm : ∀ l : List α, (isort le l).Perm l
  | [] => List.Perm.refl _
  | x :: r => (insS_perm le x _).trans ((isort_perm r).cons x)
variable {le} (tot : ∀ a b, le a b = true ∨ le b a = true) (tr : ∀ a b c, le a b = true → le b c = true → le a c = true) (anti : ∀ a b, le a b = true → le b a = true → a = b)
include tot tr in
theorem insS_sorted (x : α) : ∀ l : List α, l.Pairwise (fun a b => le a b = true) → (insS le x l).Pairwise (fun a b => le a b = true)
  | [], _ => List.pairwise_singleton _ _
  | y :: r, h => by
    obtain ⟨h1, h2⟩ := List.pairwise_cons.mp h
    unfold insS
    split
    · rename_i hxy
      refine List.pairwise_cons.mpr ⟨fun b hb => ?_, h⟩
      rcases List.mem_cons.mp hb with rfl | hb
      · exact hxy
      · exact tr x y b hxy (h1 b hb)
    · rename_i hxy
      refine List.pairwise_cons.mpr ⟨fun b hb => ?_, insS_sorted x r h2⟩
      rcases List.mem_cons.mp ((insS_perm le x r).mem_iff.mp hb) with rfl | hb
      · rcases tot y b with q | q
        · exact q
        · exact absurd q hxy
      · exact h1 b hb
include tot tr in
theorem isort_sorted : ∀ l : List α, (isort le l).Pairwise (fun a b => le a b = true)
  | [] => List.Pairwise.nil
  | x :: r => insS_sorted tot tr x _ (isort_sorted r)
include anti in
theorem sorted_unique : ∀ {l m : List α}, l.Perm m → l.Pairwise (fun a b => le a b = true) → m.Pairwise (fun a b => le a b = true) → l = m
  | [], m, p, _, _ => (List.nil_perm.mp p).symm
  | x :: l, [], p, _, _ => absurd p.symm (by simp)
  | x :: l, y :: m, p, h1, h2 => by
    obtain ⟨a1, a2⟩ := List.pairwise_cons.mp h1
    obtain ⟨b1, b2⟩ := List.pairwise_cons.mp h2
    have hx : x ∈ y :: m := p.mem_iff.mp List.mem_cons_self
    have hy : y ∈ x :: l := p.mem_iff.mpr List.mem_cons_self
    have e : x = y := by
      rcases List.mem_cons.mp hx with q | q
      · exact q
      · rcases List.mem_cons.mp hy with r | r
        · exact r.symm
        · exact anti _ _ (a1 y r) (b1 x q)
    subst e
    rw [sorted_unique (List.Perm.cons_inv p) a2 b2]
end
noncomputable def leI (a b : Int) : Bool := decide (a ≤ b)
noncomputable def sortI (l : List Int) : List Int := isort leI l

theorem Rels.ints {X h n} : ∀ {ns : List Int} {vs : List Value}, Rels X h n (ns.map .int) vs → IntsAre vs ns
  | [], _, r => by rw [show _ = ([] : List Value) from r]; exact .nil
  | _ :: _, _, ⟨v, vs', e, ⟨t, e2⟩, rs⟩ => by rw [e, e2]; exact .cons _ _ (Rels.ints rs)
theorem Rels.of_ints {X h n} : ∀ {ns : List Int} {vs : List Value}, IntsAre vs ns → Rels X h n (ns.map .int) vs
  | [], _, .nil => rfl
  | _ :: _, _, .cons _ t r => ⟨_, _, rfl, ⟨t, rfl⟩, Rels.of_ints r⟩
theorem preSum_of {xs : Array (Int × Tok)} : ∀ {ns : List Int} {vs : List Value}, IntsAre vs ns → ∃ ps : List (Int × Tok), vs = ps.map (fun p => .int p.1 p.2) ∧ ns = ps.map (·.1)
  | _, _, .nil => ⟨[], rfl, rfl⟩
  | _, _, .cons n t r => let ⟨ps, e1, e2⟩ := preSum_of (xs := xs) r; ⟨(n, t) :: ps, by rw [e1]; rfl, by rw [e2]; rfl⟩
theorem preSum_list (ps : List (Int × Tok)) : ∀ k, k ≤ ps.length → preSum (numAt ps.toArray) k = ((ps.take k).map (·.1)).sum
  | 0, _ => by simp [preSum]
  | k + 1, h => by
    have hk : k < ps.length := h
    rw [preSum, preSum_list ps k (Nat.le_of_succ_le h)]
    have e : ps.take (k + 1) = ps.take k ++ [ps[k]] := by rw [List.take_add_one, List.getElem?_eq_getElem hk]; rfl
    have e2 : numAt ps.toArray k = ps[k].1 := by simp [numAt, hk]
    rw [e, e2, List.map_append, List.sum_append]; simp

section
variable {prog : Program} {w : World} {hB : Heap} {k : Nat} {env : Env} {σ : Sig} {mg mb : Str → Option Value}

theorem bi_sum {ns : List Int} : Bi prog w hB (.builtin "sum") [.list (ns.map .int)] (.int ns.sum) := by
  refine ⟨?_⟩
  rintro X A E s vs hr hb ⟨v, vs', rfl, ⟨a, its, rfl, ha, hl, rs⟩, rfl⟩ hx
  obtain ⟨ps, e1, e2⟩ := preSum_of (xs := #[]) rs.ints
  have e3 : its = intItems ps.toArray := by
    apply Array.toList_inj.mp
    rw [e1]; simp [intItems]
  have hs : preSum (numAt ps.toArray) ps.toArray.size = ns.sum := by
    rw [preSum_list ps _ (by simp), List.size_toArray, List.take_length, e2]
  refine wpAny_mono (wpAny_toks_of (n := s.toks) (Nat.le_refl _) (sum_intListG (Q := fun v s' => ∃ h' tk t', s' = { s with heap := h', toks := tk } ∧ v = .int ns.sum t' ∧ ∀ b o, s.heap.get? b = some o → h'.get? b = some o) hr.handled (e3 ▸ hl.isList) fun h' tk t' hk => ⟨h', tk, t', rfl, by rw [hs], hk⟩)) (fun v s' q => ?_) fun _ _ x => x.2
  obtain ⟨ht, h', tk, t', rfl, rfl, hk⟩ := q
  exact ⟨⟨_, rfl⟩, Kp.of hk ht⟩

theorem bi_sorted {ns : List Int} (h64 : ns.length < 64) : Bi prog w hB (.builtin "sorted") [.list (ns.map .int)] (.list ((sortI ns).map .int)) := by
  refine ⟨?_⟩
  rintro X A E s vs hr hb ⟨v, vs', rfl, ⟨a, its, rfl, ha, hl, rs⟩, rfl⟩ hx
  have hlen := rs.length
  rw [List.length_map] at hlen
  refine sorted_ints (vs := its.toList) (by simpa using hl.isList) rs.ints (by omega) fun out ns' hI hp hsrt => ?_
  have e : ns' = sortI ns := by
    refine sorted_unique (le := leI) (fun a b h1 h2 => ?_) (hp.trans (isort_perm leI ns).symm) (hsrt.imp fun h => by simpa [leI] using h) (isort_sorted (fun a b => ?_) (fun a b c h1 h2 => ?_) ns)
    · simp [leI] at h1 h2; omega
    · simp [leI]; omega
    · simp [leI] at h1 h2 ⊢; omega
  subst e
  obtain ⟨n, hat⟩ := sortedAll_at s.heap its.toList out
  have kp : Kp s { s with heap := sortedAll s.heap its.toList out } := Kp.of (fun b o e => sortedAll_old e) (Nat.le_refl s.toks)
  refine ⟨⟨_, out, rfl, fun hm => ?_, ⟨n, hat⟩, Rels.of_ints hI⟩, kp⟩
  obtain ⟨o, ho⟩ := (hx _ hm).2
  exact Nat.lt_irrefl _ (Nat.lt_of_succ_lt (Heap.lt_size ho))

-- tests
theorem tr_or {a b : Expr} {pos : Pos} {p q : Bool} (h1 : Tr prog w hB k env σ a p) (h2 : p = false → Tr prog w hB k env σ b q) : Tr prog w hB k env σ (.BoolOp .Or [a, b] pos) (p || q) := by
  refine ⟨?_⟩
  intro X A E s hr ok
  refine wpAny_isTrue_BoolOp (wpAny_allTrue_Or_cons (wpAny_mono (h1.run X A E s hr ok) (fun b' s' y => ?_) fun _ _ x => x))
  obtain ⟨rfl, kp⟩ := y
  cases b' with
  | true => exact ⟨rfl, kp⟩
  | false =>
    refine wpAny_allTrue_Or_cons (wpAny_mono ((h2 rfl).run X A E s' hr (ok.kp kp)) (fun b' s'' y => ?_) fun _ _ x => x)
    obtain ⟨rfl, kp2⟩ := y
    cases b' with
    | true => exact ⟨rfl, kp.trans kp2⟩
    | false => exact wpAny_allTrue_Or_nil ⟨rfl, kp.trans kp2⟩
theorem tr_int {e : Expr} {i : Int} (h : Ev prog w hB k env σ e (.int i)) (hs : ∀ whole, isTrue e env whole = (whole >>= fun v => standAt e.pos >>= fun _ => holding [v] (truthy v))) : Tr prog w hB k env σ e (i != 0) := by
  refine ⟨?_⟩
  intro X A E s hr ok
  rw [hs]
  refine wpAny_bind (wpAny_mono (h.run X A E s hr ok) (fun v s' q => wpAny_bind (wpAny_standAt (wpAny_holding ?_))) fun _ _ x => x)
  obtain ⟨⟨t, rfl⟩, kp⟩ := q
  exact P.truthy_int ⟨rfl, kp⟩
theorem op_isnot_none_s {x : Str} : OpOk prog w hB (compareOp .IsNot) (.str x) .none (.bool true) := by
  refine ⟨?_⟩
  rintro X A E s v u hh hu hb ⟨t, rfl⟩ rfl
  exact isnot_str_none ⟨rfl, KpB.refl⟩
theorem op_isnot_none_n : OpOk prog w hB (compareOp .IsNot) .none .none (.bool false) := by
  refine ⟨?_⟩
  rintro X A E s v u hh hu hb rfl rfl
  exact isnot_none_none ⟨rfl, KpB.refl⟩
/-- an int of before against a later one -/
theorem op_is {i j : Int} {n : Nat} (hj : smallInt i = true) : OpOk prog w hB (compareOp .Is) (.intT i fun t => 0 < t ∧ t < n) (.intT j fun t => n ≤ t) (.bool (i == j)) := by
  refine ⟨?_⟩
  rintro X A E s v u hh hu hb ⟨t, rfl, ht⟩ ⟨t', rfl, ht'⟩
  show wpAny _ _ (do return Value.bool (← isSame (.int i t) (.int j t'))) _ _ _
  obtain ⟨g1, g2⟩ : 0 < t ∧ t < n := ht
  have g3 : n ≤ t' := ht'
  have h1 : (t == 0) = false := beq_eq_false_iff_ne.mpr (Nat.ne_of_gt g1)
  have h2 : (t' == 0) = false := beq_eq_false_iff_ne.mpr (Nat.ne_of_gt (Nat.lt_of_lt_of_le (Nat.lt_of_le_of_lt (Nat.zero_le _) g2) g3))
  have h3 : (t == t') = false := beq_eq_false_iff_ne.mpr (Nat.ne_of_lt (Nat.lt_of_lt_of_le g2 g3))
  unfold isSame
  by_cases e : i = j
  · subst e
    simp only [beq_self_eq_true, hj, Bool.and_self, if_true]
    refine wpAny_bind ?_
    unfold isSame.cachedInt
    simp only [h1, h2, Bool.or_self, Bool.false_eq_true, if_false]
    exact wpAny_bind (wpAny_rule (wpAny_pure (wpAny_pure ⟨rfl, KpB.refl⟩)))
  · have e' : (i == j) = false := by simpa using e
    simp only [e', Bool.false_and, Bool.false_eq_true, if_false]
    refine wpAny_bind ?_
    unfold isSame.created
    simp only [h1, h2, h3, Bool.or_self, Bool.false_eq_true, if_false, Bool.not_false, if_true]
    exact wpAny_pure (wpAny_pure ⟨rfl, KpB.refl⟩)

-- methods
noncomputable def Meth (prog : Program) (w : World) (hB : Heap) (name : Str) (co : CV) (args : List CV) (c : CV) : Prop := ∃ T id, PlainAttrs T ∧ PySem.Slot T name id ∧ typeOf (.builtin id) = pure (.type "method_descriptor") ∧
  ∀ X (s : Shared) ov, Rel X s.heap s.toks co ov → s.TypeIs ov T ∧ (∀ a, ov = .ref a → ∃ ob, s.heap.get? a = some ob ∧ ob.dict = none) ∧
    ∀ A E vs, Room A 1 → Base hB s → XOk hB X s → Rels X s.heap s.toks args vs → wpAny (model prog w) A (call (.builtin id) (ov :: vs)) (fun v s' => Rel X s'.heap s'.toks c v ∧ Kp s s') E s

theorem ev_meth0 {o : Expr} {name : Str} {apos pos : Pos} {co c : CV} (ho : Ev prog w hB k env σ o co) (hm : Meth prog w hB name co [] c) (hk : 1 ≤ k) (hbase : attributeBase o name env (eval o env) = eval o env) (hline : (apos.endLine == pos.line) = true) :
    Ev prog w hB k env σ (.Call (.Attribute o name apos) [] [] pos) c := by
  refine ⟨?_⟩
  intro X A E s hr ok
  obtain ⟨T, id, pa, slot, ty, spec⟩ := hm
  refine wpAny_Call_method0_late hbase hline (wpAny_mono (ho.run X A E s hr ok) (fun ov s₁ q => ?_) fun _ _ x => x)
  obtain ⟨hT, hd, hc⟩ := spec X s₁ ov q.1
  refine ⟨T, id, pa, slot, ty, hT, hd, ?_⟩
  refine Calls.callWith_builtin rfl (evalArgs_nil3 ?_)
  refine wpAny_mono (hc A E [] (hr.le hk) (ok.base.kp0 q.2) (ok.xok.kp q.2) rfl) (fun v s₂ q2 => ⟨q2.1, q.2.trans q2.2⟩) fun _ _ x => x
theorem ev_meth1 {o e : Expr} {name : Str} {apos pos : Pos} {co ce c : CV} (ho : Ev prog w hB k env σ o co) (he : Ev prog w hB k env σ e ce) (hm : Meth prog w hB name co [ce] c) (hk : 1 ≤ k) (hbase : attributeBase o name env (eval o env) = eval o env) (hline : (apos.endLine == pos.line) = true)
    (htrees : backTo pos (starEach [e] env) = [(false, eval e env)]) : Ev prog w hB k env σ (.Call (.Attribute o name apos) [e] [] pos) c := by
  refine ⟨?_⟩
  intro X A E s hr ok
  obtain ⟨T, id, pa, slot, ty, spec⟩ := hm
  refine wpAny_Call_method1_late hbase hline htrees (wpAny_mono (ho.run X A E s hr ok) (fun ov s₁ q => ?_) fun _ _ x => x)
  obtain ⟨hT, hd, _⟩ := spec X s₁ ov q.1
  refine ⟨T, id, pa, slot, ty, hT, hd, ?_⟩
  refine Calls.callWith_builtin rfl (Calls.evalArgs_plain (Calls.spliced_cons (wpAny_mono (he.run X A E s₁ hr (ok.kp q.2)) (fun v s₂ q2 => Calls.spliced_nil ?_) fun _ _ x => x)))
  have kp := q.2.trans q2.2
  obtain ⟨_, _, hc⟩ := spec X s₂ ov (q.1.kp (Kp.any q2.2))
  refine wpAny_mono (hc A E [v] (hr.le hk) (ok.base.kp0 kp) (ok.xok.kp kp) (Rels.one q2.1)) (fun v s₃ q3 => ⟨q3.1, kp.trans q3.2⟩) fun _ _ x => x

theorem meth_count {ns : List Int} {i : Int} : Meth prog w hB "count" (.list (ns.map .int)) [.int i] (.int (ns.count i : Nat)) := by
  refine ⟨"list", "list.count", PySem.F.plainAttrs_list, PySem.F.slot_list_count, PySem.F.type_list_count, fun X s ov r => ?_⟩
  obtain ⟨a, its, rfl, ha, hl, rs⟩ := r
  refine ⟨hl.isList.typeIs, fun b e => ?_, fun A E vs hr hb hx rv => ?_⟩
  · cases e; obtain ⟨n, e⟩ := hl; exact ⟨_, e, rfl⟩
  · obtain ⟨v, vs', rfl, ⟨t, rfl⟩, rfl⟩ := rv
    exact count_list_ints (vs := its.toList) (by simpa using hl.isList) rs.ints ⟨⟨_, rfl⟩, Kp.toksOnly (Nat.le_succ _)⟩
theorem meth_lower {x : Str} (hn : x.length ≤ 100) : Meth prog w hB "lower" (.str x) [] (.str (Txt.lower x)) := by
  refine ⟨"str", "str.lower", PySem.F.plainAttrs_str, PySem.F.slot_str_lower, PySem.F.type_str_lower, fun X s ov r => ?_⟩
  obtain ⟨t, rfl⟩ := r
  refine ⟨typeIs_str _ _ _, (fun b e => nomatch e), fun A E vs hr hb hx rv => ?_⟩
  rw [show vs = [] from rv]
  exact SCL.lower (by omega) fun _ => ⟨⟨_, rfl⟩, Kp.toksOnly (Nat.le_succ _)⟩

/-- a name of the text's top that bears an int -/
theorem ev_gint {x : Str} {pos : Pos} {i : Int} {t : Tok} (G : Glob hB mg mb) (hm : mg x = some (.int i t)) (hx : env.kindOf x = some .globalImplicit) (hd : (x == ("__debug__" : Str)) = false) : Ev prog w hB k env σ (.Name x pos) (.int i) := by
  refine ⟨?_⟩
  intro X A E s hr ok
  exact ev_global G ok hm hx hd ⟨⟨t, rfl⟩, KpB.refl⟩
end
end Mine

namespace Mine
open PySem PySem.W PySem.Calls PyProof.Rows
open Sem (wp)
open AutoSeq1 (wpAny_loadPart')

theorem meets_enumT (l : Addr) (items : Array Value) (n : Nat) (dct : Option Addr) (sl : Array (Option Value)) :
    Meets (Builtin.«enumerate.__new__» ⟨[.type "enumerate", .ref l], []⟩) (fun _ R s => s.heap.get? l = some { cls := .type "tuple", dict := dct, data := .seq items n, slots := sl } ∧
      R (.ok (.ret (.ref (s.heap.push { cls := .type "tuple_iterator", data := .fields #[.ref l, .int 0 0] }).objs.size)))
        { s with heap := (s.heap.push { cls := .type "tuple_iterator", data := .fields #[.ref l, .int 0 0] }).push { cls := .type "enumerate", data := .fields #[.none, .bool false, .ref s.heap.objs.size, rawInt 0, .none, .none] } }) :=
  .of_wp fun prog w A R s h => by
    obtain ⟨hp, g, d, tk, os⟩ := s; obtain ⟨hl, h⟩ := h
    have hsub := sub_enumerate
    have hL : Heap.IsTuple (Shared.heap ⟨hp, g, d, tk, os⟩) l items := ⟨_, hl, rfl, n, rfl⟩
    wp_walk using wpAny_loadPart' hl
    refine wpAny_stack_any fun st => wpAny_pure ?_
    split
    · rename_i c _ _ _ _ _
      cases (c == Value.type "enumerate")
      · wp_walk using wpAny_loadPart' hl, wpAny_pyIter_tuple hL
        exact ⟨_, rfl, h⟩
      · wp_walk using wpAny_loadPart' hl, wpAny_pyIter_tuple hL
        exact ⟨_, rfl, h⟩
    · wp_walk using wpAny_loadPart' hl, wpAny_pyIter_tuple hL
      exact ⟨_, rfl, h⟩

section
variable {prog : Program} {w : World} {A : Around} {E : Value → Shared → Prop} {s : Shared}
theorem call_enumT {l : Addr} {items : Array Value} {Q : Value → Shared → Prop} (hL : s.heap.IsTuple l items)
    (h : ∀ h', IsEnum h' (s.heap.objs.size + 1) s.heap.objs.size 0 .none → h'.IsTupleIter s.heap.objs.size l 0 → h'.objs.size = s.heap.objs.size + 2 →
      (∀ b o, s.heap.get? b = some o → h'.get? b = some o) → Q (.ref (s.heap.objs.size + 1)) { s with heap := h' }) :
    wpAny (model prog w) A (call (.type "enumerate") [.ref l]) Q E s := by
  obtain ⟨⟨c, dct, dt, sl⟩, hl, hc, n, hd⟩ := hL
  replace hc : c = .type "tuple" := hc
  replace hd : dt = .seq items n := hd
  subst hc hd
  refine callType_new F.called_enumerate (by decide) (F.typeCall_enumerate_1 _) (F.newCall_enumerate_1 _) (fun obj => F.args_object_init_2 obj _) F.entry_enumerate_new
    (meets_enumT l items n dct sl) ⟨hl, ?_⟩
  have hz : (s.heap.push { cls := .type "tuple_iterator", data := .fields #[.ref l, .int 0 0] }).objs.size = s.heap.objs.size + 1 := Heap.size_push ..
  show _ ∧ _
  rw [hz]
  have he : IsEnum ((s.heap.push { cls := .type "tuple_iterator", data := .fields #[.ref l, .int 0 0] }).push
      { cls := .type "enumerate", data := .fields #[.none, .bool false, .ref s.heap.objs.size, rawInt 0, .none, .none] }) (s.heap.objs.size + 1) s.heap.objs.size 0 .none := by
    have := Heap.get?_push_size (s.heap.push { cls := .type "tuple_iterator", data := .fields #[.ref l, .int 0 0] })
      (o := { cls := .type "enumerate", data := .fields #[.none, .bool false, .ref s.heap.objs.size, rawInt 0, .none, .none] }) rfl
    rw [hz] at this; exact this
  refine ⟨⟨_, he, rfl⟩, h _ he ⟨_, Heap.get?_push_of_some _ (Heap.get?_push_size _ rfl), rfl, rfl⟩ (by rw [Heap.size_push, hz]) fun b o x => Heap.get?_push_of_some _ (Heap.get?_push_of_some _ x)⟩

theorem nextOf_tuple_item {it l : Addr} {i : Nat} {items} {x : Value} {Q : Value → Shared → Prop} (hit : s.heap.IsTupleIter it l i) (hl : s.heap.IsTuple l items) (hx : items[i]? = some x)
    (hQ : ∀ h', h'.IsTupleIter it l (i + 1) → Heap.SameBut it s.heap h' → Q x { s with heap := h' }) : wpAny (model prog w) A (Builtin.SmallTypes.nextOf (.ref it)) Q E s := by
  obtain ⟨o, ho, hc, hd⟩ := id hit
  obtain ⟨ol, hol, _, nl, hdl⟩ := hl
  unfold Builtin.SmallTypes.nextOf
  refine wpAny_bind (wpAny_callSpecial?_slot (name := Str.ofString "__next__") hit.typeIs F.slot_tuple_iterator_next
    (wpAny_call_entry F.slot_tuple_iterator_next hit.typeIs F.entry_tuple_iterator_next ?_ (F.args_tuple_iterator_next_1 _)))
  show wpAny _ _ (field (.ref it) 0 >>= _) _ _ s
  refine wpAny_bind (wpAny_field ho hd (x := .ref l) rfl ?_)
  show wpAny _ _ (if (Value.ref l == Value.none) = true then _ else _) _ _ s
  rw [if_neg (show ¬ ((Value.ref l == Value.none) = true) from Bool.false_ne_true)]
  show wpAny _ _ (field (.ref it) 1 >>= _) _ _ s
  refine wpAny_bind (wpAny_field ho hd (x := .int i 0) rfl ?_)
  show wpAny _ _ (seqItems? (.ref l) >>= _) _ _ s
  refine wpAny_bind (wpAny_seqItems hol hdl ?_)
  simp only [Int.toNat_natCast, hx]
  refine wpAny_bind (wpAny_setField ho hd (by simp) (wpAny_pure ⟨x, rfl, wpAny_pure (hQ _ ?_ (Heap.SameBut.update ..))⟩))
  exact ⟨_, Heap.get?_update_self _ ho (Obj.isFreed_of_fields (Obj.data_mapFields hd _)), (Obj.cls_mapFields ..).trans hc, by
    rw [Obj.data_mapFields hd]; simp [rawInt]⟩
theorem nextOf_tuple_end {it l : Addr} {i : Nat} {items} {Q : Value → Shared → Prop} (hh : A.handled = none) (hit : s.heap.IsTupleIter it l i) (hl : s.heap.IsTuple l items) (hx : items[i]? = none)
    (hE : ∀ h' e, Heap.ExtBut it s.heap h' → (∃ o, h'.get? e = some o ∧ o.cls = .type "StopIteration") → E (.ref e) { s with heap := h' }) :
    wpAny (model prog w) A (Builtin.SmallTypes.nextOf (.ref it)) Q E s := by
  obtain ⟨o, ho, hc, hd⟩ := id hit
  obtain ⟨ol, hol, _, nl, hdl⟩ := hl
  unfold Builtin.SmallTypes.nextOf
  refine wpAny_bind (wpAny_callSpecial?_slot (name := Str.ofString "__next__") hit.typeIs F.slot_tuple_iterator_next
    (wpAny_call_entry F.slot_tuple_iterator_next hit.typeIs F.entry_tuple_iterator_next ?_ (F.args_tuple_iterator_next_1 _)))
  show wpAny _ _ (field (.ref it) 0 >>= _) _ _ s
  refine wpAny_bind (wpAny_field ho hd (x := .ref l) rfl ?_)
  show wpAny _ _ (if (Value.ref l == Value.none) = true then _ else _) _ _ s
  rw [if_neg (show ¬ ((Value.ref l == Value.none) = true) from Bool.false_ne_true)]
  show wpAny _ _ (field (.ref it) 1 >>= _) _ _ s
  refine wpAny_bind (wpAny_field ho hd (x := .int i 0) rfl ?_)
  show wpAny _ _ (seqItems? (.ref l) >>= _) _ _ s
  refine wpAny_bind (wpAny_seqItems hol hdl ?_)
  simp only [Int.toNat_natCast, hx]
  refine wpAny_bind (wpAny_rule (wpAny_bind (wpAny_setField ho hd (by simp) ?_)))
  show wpAny _ _ (newExc (.type "StopIteration") [] >>= _) _ _ _
  refine wpAny_bind ?_
  simp only [newExc, newTuple]
  refine wpAny_bind (wpAny_newObj_type ?_ (by size_fits))
  refine wpAny_bind (m := firstArgMember _ _) (wpAny_of_eq (a := Value.none) (by first | rfl | (simp only [firstArgMember]; rfl)) ?_)
  refine wpAny_newObj_type ?_ (by size_fits)
  simp only [raiseNew]
  refine wpAny_bind (wpAny_handled ?_)
  first | rw [show A.in1.handled = none from hh] | rw [hh]
  refine wpAny_bind (wpAny_pure (wpAny_throw ?_))
  exact hE _ _ (((Heap.SameBut.update ..).extBut.push _).push _) ⟨_, Heap.get?_push_size _ rfl, rfl⟩
end
theorem draws_tup {prog : Program} {w : World} {A : Around} (hh : A.handled = none) (it l : Addr) (hne : l ≠ it) (items : Array Value) :
    Draws prog w A it [it, l] items.size (fun i v => items[i]? = some v) (fun i h => h.IsTupleIter it l i ∧ h.IsTuple l items) where
  live := fun _ _ st => let ⟨o, ho, _⟩ := st.1; ⟨o, ho⟩
  frame := fun _ _ _ st hk => ⟨let ⟨o, ho, r⟩ := st.1; ⟨o, hk it (by simp) o ho, r⟩, let ⟨o, ho, r⟩ := st.2; ⟨o, hk l (by simp) o ho, r⟩⟩
  item := fun i s Q E hi st hQ => by
    refine nextOf_tuple_item st.1 st.2 (x := items[i]) (by simp [hi]) fun h' hit' hs' => ?_
    exact hQ _ h' s.toks (by simp [hi]) ⟨hit', st.2.extBut hs'.extBut hne⟩ hs'
  done := fun s Q E st hE => nextOf_tuple_end hh st.1 st.2 (by simp) hE

noncomputable def enumC (cs : List CV) : List CV := cs.mapIdx fun i c => .tup [.int i, c]

section
variable {prog : Program} {w : World} {hB : Heap}
/-- enumerate of a list (b) or a tuple -/
noncomputable def SeqIt (b : Bool) (h : Heap) (it l : Addr) (i : Nat) (items : Array Value) : Prop := if b then h.IsListIter it l i ∧ h.IsList l items else h.IsTupleIter it l i ∧ h.IsTuple l items
theorem draws_seq (b : Bool) {A : Around} (hh : A.handled = none) (it l : Addr) (hne : l ≠ it) (items : Array Value) : Draws prog w A it [it, l] items.size (fun i v => items[i]? = some v) (fun i h => SeqIt b h it l i items) := by
  cases b with
  | true => exact Draws.list hh it l hne items
  | false => exact draws_tup hh it l hne items
theorem SeqIt.at {b h h' it l i items} (x : SeqIt b h it l i items) (hi : ∀ o, h.get? it = some o → h'.get? it = some o) (hl : ∀ o, h.get? l = some o → h'.get? l = some o) : SeqIt b h' it l i items := by
  cases b with
  | true => obtain ⟨a, c⟩ := x; exact ⟨a.at hi, c.at hl⟩
  | false => obtain ⟨⟨o, ho, r⟩, ⟨o2, ho2, r2⟩⟩ := x; exact ⟨⟨o, hi o ho, r⟩, ⟨o2, hl o2 ho2, r2⟩⟩
theorem SeqIt.live {b h it l i items} (x : SeqIt b h it l i items) : Live h it ∧ Live h l := by
  cases b with
  | true => obtain ⟨⟨o, ho, r⟩, ⟨o2, ho2, r2⟩⟩ := x; exact ⟨⟨o, ho⟩, ⟨o2, ho2⟩⟩
  | false => obtain ⟨⟨o, ho, r⟩, ⟨o2, ho2, r2⟩⟩ := x; exact ⟨⟨o, ho⟩, ⟨o2, ho2⟩⟩

theorem iter_enum (b : Bool) {elts : List Expr} {n : Nat} {pos : Pos} {e it l : Addr} {cs : List CV} : IterLaw prog w hB (.ref e) [e, it]
    (fun X i s => e ∈ X ∧ it ∈ X ∧ e ≠ it ∧ l ∉ X ∧ (∃ old, IsEnum s.heap e it i old) ∧ ∃ its, SeqIt b s.heap it l i its ∧ Rels X s.heap s.toks cs its.toList) (.Tuple elts n pos) (enumC cs) where
  frame := by
    rintro X Y Z i s s' ⟨he, hit, hne, hl, ⟨old, hen⟩, its, hs, rs⟩ k hZX hZW hXY hlive
    have kx : KpB X s s' := k.weak hZX
    have e1 : ∀ o, s.heap.get? e = some o → s'.heap.get? e = some o := fun o q => k.get (fun h => hZW e h (by simp)) q
    have e2 : ∀ o, s.heap.get? it = some o → s'.heap.get? it = some o := fun o q => k.get (fun h => hZW it h (by simp)) q
    refine ⟨hXY e he, hXY it hit, hne, hlive l hs.live.2 hl, ⟨old, e1 _ hen⟩, its, hs.at e2 (fun o q => kx.get hl q), ?_⟩
    obtain ⟨h', tk, rfl, h1, h2, h3⟩ := k
    exact rs.move hlive (fun b o hb q => h1 b o (fun r => hb (hZX b r)) q) h3
  item := by
    rintro X A E i c s hc hh hb hx ⟨he, hit, hne, hl, ⟨old, hen⟩, its, hs, rs⟩
    have hle : l ≠ e := fun q => hl (q ▸ he)
    have hli : l ≠ it := fun q => hl (q ▸ hit)
    have hsz := rs.length
    rw [Array.length_toList] at hsz
    have hi : i < cs.length := by
      rcases Nat.lt_or_ge i cs.length with q | q
      · exact q
      · rw [enumC, List.getElem?_eq_none (by simpa using q)] at hc; cases hc
    have hcc : c = .tup [.int i, cs[i]] := by
      rw [enumC, List.getElem?_mapIdx, List.getElem?_eq_getElem hi] at hc
      simpa using hc.symm
    subst hcc
    obtain ⟨u, hu, ru⟩ := rs.get (List.getElem?_eq_getElem hi)
    rw [Array.getElem?_toList] at hu
    have hfe : e ∉ [it, l] := by simp [hne, hle.symm]
    refine wpAny_mono (wpAny_toks_of (n := s.toks) (Nat.le_refl _) (wpAny_pyNext_enum_itemD (E := fun _ _ => False) (draws_seq (prog := prog) (w := w) b (A := A.in1) hh it l hli its) hen hs (by omega) hne hfe (Q := fun r s' => ∃ h' tk, s' = { s with heap := h', toks := tk + 1 } ∧ r = some (.ref s.heap.objs.size) ∧ IsEnumOut h' e it ((i : Int) + 1) u s.heap.objs.size ∧ SeqIt b h' it l (i + 1) its ∧ h'.get? s.heap.objs.size = some { cls := .type "tuple", data := .seq #[.int i tk, u] } ∧ h'.objs.size = s.heap.objs.size + 1 ∧ ∀ b o, b ≠ e → b ≠ it → s.heap.get? b = some o → h'.get? b = some o)
      fun x h' tk hP ho hs' hT hz hk => ?_)) (fun r s₁ q => ?_) fun _ _ x => x.2.elim
    · rw [hu] at hP; cases hP
      exact ⟨h', tk, rfl, rfl, ho, hs', hT, hz, hk⟩
    obtain ⟨ht, h', tk, rfl, rfl, ho, hs', hT, hz, hk⟩ := q
    refine ⟨_, rfl, ?_⟩
    have hel : e < s.heap.objs.size := Heap.lt_size hen
    have hil : it < s.heap.objs.size := let ⟨o, ho⟩ := hs.live.1; Heap.lt_size ho
    refine wpAny_letOwnedTupleGo_enum ho fun h₂ he₂ hs₂ => ?_
    have hs₂' : Heap.SameBut e h' h₂ := hs₂
    have kp : KpB [e, it] s { s with heap := h₂, toks := tk + 1 } := by
      refine ⟨h₂, tk + 1, rfl, fun b o hb q => ?_, fun b hb => ?_, ht⟩
      · simp only [List.mem_cons, List.not_mem_nil, or_false, not_or] at hb
        exact (hs₂'.2 b hb.1).trans (hk b o hb.1 hb.2 q)
      · by_cases q : b = e
        · rw [q]; exact ⟨_, he₂⟩
        · by_cases q2 : b = it
          · rw [q2]
            obtain ⟨o, ho⟩ := hs'.live.1
            exact ⟨o, (hs₂'.2 it (fun h => hne h.symm)).trans ho⟩
          · obtain ⟨o, ho⟩ := hb
            exact ⟨o, (hs₂'.2 b q).trans (hk b o q q2 ho)⟩
    have kx : KpB X s { s with heap := h₂, toks := tk + 1 } := kp.weak (by
      intro a ha
      simp only [List.mem_cons, List.not_mem_nil, or_false] at ha
      rcases ha with rfl | rfl
      · exact he
      · exact hit)
    have rs2 := rs.kp kx
    refine ⟨⟨s.heap.objs.size, #[.int i tk, u], rfl, fun hm => not_live_size (hx _ hm).2, ⟨_, (hs₂'.2 _ (Nat.ne_of_gt hel)).trans hT, rfl, _, rfl⟩, ⟨_, _, rfl, ⟨tk, rfl⟩, _, _, rfl, ru.kp kx, rfl⟩⟩, ⟨he, hit, hne, hl, ⟨u, ?_⟩, its, hs'.at (fun o q => (hs₂'.2 it (fun h => hne h.symm)).trans q) (fun o q => (hs₂'.2 l hle).trans q), rs2⟩, kp⟩
    have ee : ((i + 1 : Nat) : Int) = (i : Int) + 1 := by push_cast; rfl
    rw [ee]; exact he₂
  done := by
    rintro X A E s hh ⟨he, hit, hne, hl, ⟨old, hen⟩, its, hs, rs⟩
    have hli : l ≠ it := fun q => hl (q ▸ hit)
    have hsz := rs.length
    rw [Array.length_toList] at hsz
    have hlen : (enumC cs).length = its.size := by rw [hsz]; simp [enumC]
    rw [hlen] at hs hen
    exact wpAny_pyNext_enum_endD (draws_seq (prog := prog) (w := w) b (A := A.in1) hh it l hli its) hen hs fun h' hx => ⟨rfl, KpW.ext hx (by simp)⟩
  self := by
    rintro X A E i s Q ⟨he, hit, hne, hl, ⟨old, hen⟩, its, hs, rs⟩ hQ
    exact wpAny_pyIter_enum hen hQ
end

section
variable {prog : Program} {w : World} {hB : Heap} {k : Nat} {env : Env} {σ : Sig} {mg mb : Str → Option Value}
theorem src_enumL {p pos : Pos} {e : Expr} {elts : List Expr} {n : Nat} {tp : Pos} {cs : List CV} (G : Glob hB mg mb) (hm : mg "enumerate" = none) (h : Ev prog w hB k env σ e (.list cs)) (hs : isStarred e = false) (hx : env.kindOf "enumerate" = some .globalImplicit) :
    Src prog w hB k env σ (.Call (.Name "enumerate" p) [e] [] pos) (.Tuple elts n tp) (enumC cs) := by
  refine ⟨?_⟩
  intro X A E s hr ok
  refine call_bi G hr ok hm (fv := .type "enumerate") (by decide +kernel) rfl (evs_cons h evs_nil hs) (by simp [hs]) hx (by decide +kernel) (by decide +kernel) fun vs s₁ rs kp => ?_
  obtain ⟨v, vs', rfl, ⟨a, its, rfl, ha, hl, rs⟩, rfl⟩ := rs
  refine call_enumerate_list hl.isList fun h' he hit hz hk => wpAny_pyIter_enum he ?_
  have kp2 : Kp s₁ { s₁ with heap := h' } := Kp.of hk (Nat.le_refl s₁.toks)
  have n1 : ¬ Live s₁.heap s₁.heap.objs.size := not_live_size
  have n2 : ¬ Live s₁.heap (s₁.heap.objs.size + 1) := fun ⟨o, e⟩ => Nat.lt_irrefl _ (Nat.lt_of_succ_lt (Heap.lt_size e))
  have hw : ∀ b, Live s₁.heap b → b ∉ X → b ∉ [s₁.heap.objs.size + 1, s₁.heap.objs.size] ++ X := fun b hb hx hm => by
    simp only [List.cons_append, List.nil_append, List.mem_cons] at hm
    rcases hm with rfl | rfl | hm
    · exact n2 hb
    · exact n1 hb
    · exact hx hm
  have hla : Live s₁.heap a := let ⟨n, e⟩ := hl; ⟨_, e⟩
  refine ⟨_, _, iter_enum true (l := a), ⟨by simp, by simp, Nat.succ_ne_self _, hw a hla ha, ⟨_, he⟩, its, ⟨hit, hl.isList.at fun o e => hk a o e⟩, rs.move hw (fun b o _ e => hk b o e) (Nat.le_refl _)⟩, kp.trans kp2, fun b hb => ?_⟩
  simp only [List.mem_cons, List.not_mem_nil, or_false] at hb
  rcases hb with rfl | rfl
  · exact ⟨fun q => n2 (kp.live q), _, he⟩
  · exact ⟨fun q => n1 (kp.live q), let ⟨o, e, _⟩ := hit; ⟨o, e⟩⟩
theorem src_enumT {p pos : Pos} {e : Expr} {elts : List Expr} {n : Nat} {tp : Pos} {cs : List CV} (G : Glob hB mg mb) (hm : mg "enumerate" = none) (h : Ev prog w hB k env σ e (.tup cs)) (hs : isStarred e = false) (hx : env.kindOf "enumerate" = some .globalImplicit) :
    Src prog w hB k env σ (.Call (.Name "enumerate" p) [e] [] pos) (.Tuple elts n tp) (enumC cs) := by
  refine ⟨?_⟩
  intro X A E s hr ok
  refine call_bi G hr ok hm (fv := .type "enumerate") (by decide +kernel) rfl (evs_cons h evs_nil hs) (by simp [hs]) hx (by decide +kernel) (by decide +kernel) fun vs s₁ rs kp => ?_
  obtain ⟨v, vs', rfl, ⟨a, its, rfl, ha, hl, rs⟩, rfl⟩ := rs
  refine call_enumT hl fun h' he hit hz hk => wpAny_pyIter_enum he ?_
  have kp2 : Kp s₁ { s₁ with heap := h' } := Kp.of hk (Nat.le_refl s₁.toks)
  have n1 : ¬ Live s₁.heap s₁.heap.objs.size := not_live_size
  have n2 : ¬ Live s₁.heap (s₁.heap.objs.size + 1) := fun ⟨o, e⟩ => Nat.lt_irrefl _ (Nat.lt_of_succ_lt (Heap.lt_size e))
  have hw : ∀ b, Live s₁.heap b → b ∉ X → b ∉ [s₁.heap.objs.size + 1, s₁.heap.objs.size] ++ X := fun b hb hx hm => by
    simp only [List.cons_append, List.nil_append, List.mem_cons] at hm
    rcases hm with rfl | rfl | hm
    · exact n2 hb
    · exact n1 hb
    · exact hx hm
  have hla : Live s₁.heap a := let ⟨o, e, _⟩ := hl; ⟨o, e⟩
  refine ⟨_, _, iter_enum false (l := a), ⟨by simp, by simp, Nat.succ_ne_self _, hw a hla ha, ⟨_, he⟩, its, ⟨hit, let ⟨o, e, r⟩ := hl; ⟨o, hk a o e, r⟩⟩, rs.move hw (fun b o _ e => hk b o e) (Nat.le_refl _)⟩, kp.trans kp2, fun b hb => ?_⟩
  simp only [List.mem_cons, List.not_mem_nil, or_false] at hb
  rcases hb with rfl | rfl
  · exact ⟨fun q => n2 (kp.live q), _, he⟩
  · exact ⟨fun q => n1 (kp.live q), let ⟨o, e, _⟩ := hit; ⟨o, e⟩⟩
end
end Mine

namespace Mine
open PySem PySem.W PySem.Calls PyProof.Rows

/-- a tree of questions, each answered by lt, each about places below n -/
noncomputable def Good {β : Type} (lt : Nat → Nat → Bool) (n : Nat) : KasT β → (β → Prop) → Prop
  | .ret a, Q => Q a
  | .ask i j k, Q => i < n ∧ j < n ∧ Good lt n (k (lt i j)) Q
section
variable {β γ : Type} {lt : Nat → Nat → Bool} {n : Nat}
theorem Good.mono {Q Q' : β → Prop} (h : ∀ a, Q a → Q' a) : ∀ {t : KasT β}, Good lt n t Q → Good lt n t Q'
  | .ret _, g => h _ g
  | .ask _ _ _, ⟨g1, g2, g3⟩ => ⟨g1, g2, Good.mono h g3⟩
theorem Good.bind {f : β → KasT γ} {Q : γ → Prop} : ∀ {t : KasT β}, Good lt n t (fun a => Good lt n (f a) Q) → Good lt n (t.bind f) Q
  | .ret _, g => g
  | .ask _ _ _, ⟨g1, g2, g3⟩ => ⟨g1, g2, Good.bind g3⟩
theorem Good.wp {cmp : Nat → Nat → (Bool → Shared → Prop) → Shared → Prop} {Q : β → Prop} {R : β → Shared → Prop} {s : Shared} (hc : ∀ i j C, i < n → j < n → C (lt i j) s → cmp i j C s) (hR : ∀ a, Q a → R a s) : ∀ {t : KasT β}, Good lt n t Q → t.kasWp cmp R s
  | .ret _, g => hR _ g
  | .ask i j k, ⟨g1, g2, g3⟩ => hc i j _ g1 g2 (Good.wp hc hR g3)
end

section
variable {α : Type} {le : α → α → Bool} (tot : ∀ a b, le a b = true ∨ le b a = true) (tr : ∀ a b c, le a b = true → le b c = true → le a c = true) (anti : ∀ a b, le a b = true → le b a = true → a = b) (K : Nat → α)
/-- strictly below, by the keys -/
noncomputable def ltK (le : α → α → Bool) (K : Nat → α) (i j : Nat) : Bool := !(le (K j) (K i))
noncomputable def At (K : Nat → α) (p : Array Nat) (i : Nat) : α := K (p.getD i 0)
noncomputable def Asc (le : α → α → Bool) (K : Nat → α) (p : Array Nat) (m : Nat) : Prop := ∀ i, i + 1 < m → le (At K p i) (At K p (i + 1)) = true
noncomputable def Dsc (le : α → α → Bool) (K : Nat → α) (p : Array Nat) (m : Nat) : Prop := ∀ i, i + 1 < m → le (At K p (i + 1)) (At K p i) = true
noncomputable def PA (n : Nat) (p : Array Nat) : Prop := p.Perm (List.range n).toArray
theorem PA.size {n p} (h : PA n p) : p.size = n := by rw [h.size_eq]; simp
theorem PA.lt {n p} (h : PA n p) {i : Nat} (hi : i < n) : p.getD i 0 < n := by
  have hs := h.size
  have hi' : i < p.size := by omega
  have e : p.getD i 0 = p[i] := by simp [Array.getD, hi']
  have hm : p[i] ∈ (List.range n).toArray := h.mem_iff.mp (Array.getElem_mem hi')
  rw [e]
  simpa using hm
theorem At_eq {p q : Array Nat} {i j : Nat} (h : p[i]? = q[j]?) : At K p i = At K q j := by
  unfold At
  rw [Array.getD_eq_getD_getElem?, Array.getD_eq_getD_getElem?, h]
theorem PA.rev {n p} (h : PA n p) (i j : Nat) : PA n (kas_rev p i j) := (mirror_perm _ _ _ _).trans h
theorem At_rev {p : Array Nat} {i j : Nat} (hj : j ≤ p.size) (k : Nat) : At K (kas_rev p i j) k = if i ≤ k ∧ k < j then At K p (i + j - 1 - k) else At K p k := by
  have e := getElem?_mirror_all (xs := p) (i := i) hj k
  split
  · rename_i h; rw [if_pos h] at e; exact At_eq K e
  · rename_i h; rw [if_neg h] at e; exact At_eq K e

theorem asc_good {n : Nat} {p : Array Nat} (hp : PA n p) : ∀ (f m : Nat), 1 ≤ m → m + f ≤ n → Asc le K p m → Good (ltK le K) n (kas_asc p f m) (fun r => m ≤ r ∧ r ≤ m + f ∧ Asc le K p r ∧ (r < m + f → le (At K p (r - 1)) (At K p r) = false))
  | 0, m, h1, h2, ha => ⟨Nat.le_refl _, Nat.le_refl _, ha, fun h => absurd h (Nat.lt_irrefl _)⟩
  | f + 1, m, h1, h2, ha => by
    refine ⟨hp.lt (by omega), hp.lt (by omega), ?_⟩
    cases e : ltK le K (p.getD m 0) (p.getD (m - 1) 0) with
    | true =>
      dsimp only
      rw [if_pos rfl]
      refine ⟨Nat.le_refl _, by omega, ha, fun _ => ?_⟩
      unfold ltK at e
      simpa [At] using e
    | false =>
      dsimp only
      rw [if_neg (by decide)]
      have hle : le (At K p (m - 1)) (At K p m) = true := by
        unfold ltK at e
        simpa [At] using e
      refine (asc_good hp f (m + 1) (by omega) (by omega) (fun i hi => ?_)).mono fun r ⟨a, b, c, d⟩ => ⟨by omega, by omega, c, fun h => d (by omega)⟩
      by_cases hm : i + 1 = m
      · have : i = m - 1 := by omega
        rw [hm, this]; exact hle
      · exact ha i (by omega)

/-- falling, the last q + 1 alike -/
structure Fall (le : α → α → Bool) (K : Nat → α) (p : Array Nat) (m q : Nat) : Prop where
  dsc : Dsc le K p m
  qm : q + 1 ≤ m
  same : ∀ i, m - (q + 1) ≤ i → i < m → At K p i = At K p (m - 1)
theorem Fall.rev {p : Array Nat} {m q : Nat} (h : Fall le K p m q) (hm : m ≤ p.size) (k : Nat) : At K (kas_rev p (m - (q + 1)) m) k = At K p k := by
  have hq := h.qm
  rw [At_rev K hm]
  split
  · rename_i hk
    rw [h.same k hk.1 hk.2, h.same _ (by omega) (by omega)]
  · rfl
theorem Fall.rev' {p : Array Nat} {m q : Nat} (h : Fall le K p m q) (hm : m ≤ p.size) : Fall le K (kas_rev p (m - (q + 1)) m) m q :=
  ⟨fun i hi => by rw [h.rev K hm, h.rev K hm]; exact h.dsc i hi, h.qm, fun i h1 h2 => by rw [h.rev K hm, h.rev K hm]; exact h.same i h1 h2⟩
include tot anti in
theorem desc_good {n : Nat} : ∀ (f : Nat) (p : Array Nat) (m q : Nat), PA n p → Fall le K p m q → m + f ≤ n → Good (ltK le K) n (kas_desc f p m q) (fun r => PA n r.1 ∧ Fall le K r.1 r.2.1 r.2.2 ∧ m ≤ r.2.1 ∧ r.2.1 ≤ m + f)
  | 0, p, m, q, hp, hf, h2 => ⟨hp, hf, Nat.le_refl _, Nat.le_refl _⟩
  | f + 1, p, m, q, hp, hf, h2 => by
    have hqm := hf.qm
    have hsz := hp.size
    refine ⟨hp.lt (by omega), hp.lt (by omega), ?_⟩
    cases e : ltK le K (p.getD m 0) (p.getD (m - 1) 0) with
    | true =>
      dsimp only
      rw [if_pos rfl]
      have hlt : le (At K p (m - 1)) (At K p m) = false := by unfold ltK at e; simpa [At] using e
      have hge : le (At K p m) (At K p (m - 1)) = true := by
        rcases tot (At K p m) (At K p (m - 1)) with h | h
        · exact h
        · rw [hlt] at h; cases h
      have ext : ∀ p', (∀ k, At K p' k = At K p k) → Fall le K p' (m + 1) 0 := fun p' hk => by
        refine ⟨fun i hi => ?_, by omega, fun i h1 h2 => by congr 1; omega⟩
        rw [hk, hk]
        by_cases hm : i + 1 = m
        · have : i = m - 1 := by omega
          rw [hm, this]; exact hge
        · exact hf.dsc i (by omega)
      split
      · exact (desc_good f _ (m + 1) 0 (hp.rev _ _) (ext _ fun k => hf.rev K (by omega) k) (by omega)).mono fun r ⟨a, b, c, d⟩ => ⟨a, b, by omega, by omega⟩
      · exact (desc_good f _ (m + 1) 0 hp (ext _ fun k => rfl) (by omega)).mono fun r ⟨a, b, c, d⟩ => ⟨a, b, by omega, by omega⟩
    | false =>
      dsimp only
      rw [if_neg (by decide)]
      refine ⟨hp.lt (by omega), hp.lt (by omega), ?_⟩
      have h1 : le (At K p (m - 1)) (At K p m) = true := by unfold ltK at e; simpa [At] using e
      cases e2 : ltK le K (p.getD (m - 1) 0) (p.getD m 0) with
      | true =>
        dsimp only
        rw [if_pos rfl]
        exact ⟨hp, hf, Nat.le_refl _, show m ≤ m + (f + 1) by omega⟩
      | false =>
        dsimp only
        rw [if_neg (by decide)]
        have h3 : le (At K p m) (At K p (m - 1)) = true := by unfold ltK at e2; simpa [At] using e2
        have heq : At K p m = At K p (m - 1) := anti _ _ h3 h1
        refine (desc_good f p (m + 1) (q + 1) hp ⟨fun i hi => ?_, by omega, fun i h4 h5 => ?_⟩ (by omega)).mono fun r ⟨a, b, c, d⟩ => ⟨a, b, by omega, by omega⟩
        · by_cases hm : i + 1 = m
          · have : i = m - 1 := by omega
            rw [hm, this]; exact h3
          · exact hf.dsc i (by omega)
        · show At K p i = At K p (m + 1 - 1)
          rw [Nat.add_sub_cancel]
          by_cases hm : i = m
          · rw [hm]
          · rw [heq]; exact hf.same i (by omega) (by omega)
theorem tail3_good {n m : Nat} {p : Array Nat} (hp : PA n p) (hd : Dsc le K p m) (h1 : 1 ≤ m) (hm : m ≤ n) : Good (ltK le K) n (kas_tail3 m n p) (fun r => PA n r.2 ∧ Asc le K r.2 r.1 ∧ 1 ≤ r.1 ∧ r.1 ≤ n) := by
  unfold kas_tail3
  have hsz := hp.size
  have ha : Asc le K (kas_rev p 0 m) m := fun i hi => by
    rw [At_rev K (by omega), At_rev K (by omega), if_pos (by omega), if_pos (by omega)]
    have := hd (m - 1 - (i + 1)) (by omega)
    have e1 : 0 + m - 1 - i = m - 1 - (i + 1) + 1 := by omega
    have e2 : 0 + m - 1 - (i + 1) = m - 1 - (i + 1) := by omega
    rw [e1, e2]; exact this
  exact Good.bind ((asc_good K (hp.rev 0 m) (n - m) m h1 (by omega) ha).mono fun r ⟨a, b, c, _⟩ => ⟨hp.rev 0 m, c, by show 1 ≤ r; omega, by show r ≤ n; omega⟩)
include tot anti in
theorem descPart_good {n m : Nat} {p : Array Nat} (hp : PA n p) (hd : Dsc le K p (m + 1)) (hm : m + 1 ≤ n) : Good (ltK le K) n (kas_descPart m n p) (fun r => PA n r.2 ∧ Asc le K r.2 r.1 ∧ 1 ≤ r.1 ∧ r.1 ≤ n) := by
  unfold kas_descPart
  refine Good.bind ((desc_good tot anti K (n - (m + 1)) p (m + 1) 0 hp ⟨hd, by omega, fun i h1 h2 => by congr 1; omega⟩ (by omega)).mono fun r ⟨a, b, c, d⟩ => ?_)
  have hq := b.qm
  have hsz := a.size
  split
  · exact tail3_good K (a.rev _ _) (b.rev' K (by omega)).dsc (by omega) (by omega)
  · exact tail3_good K a b.dsc (by omega) (by omega)

include tot tr in
theorem asc_le {p : Array Nat} {m : Nat} (ha : Asc le K p m) : ∀ i j, i ≤ j → j < m → le (At K p i) (At K p j) = true := by
  intro i j hij
  induction hij with
  | refl =>
    intro _
    rcases tot (At K p i) (At K p i) with h | h <;> exact h
  | step hij ih =>
    intro hj
    exact tr _ _ _ (ih (by omega)) (ha _ hj)
include tot tr anti in
theorem count_good {n : Nat} {p : Array Nat} (hp : PA n p) (h1 : 1 ≤ n) : Good (ltK le K) n (kas_count n p) (fun r => PA n r.2 ∧ Asc le K r.2 r.1 ∧ 1 ≤ r.1 ∧ r.1 ≤ n) := by
  unfold kas_count
  have hsz := hp.size
  refine Good.bind ((asc_good K hp (n - 1) 1 (Nat.le_refl _) (by omega) (fun i hi => by omega)).mono fun m ⟨a, b, c, d⟩ => ?_)
  split
  · exact ⟨hp, c, a, by show m ≤ n; omega⟩
  · rename_i hne
    have hmn : m < n := by
      have : m ≠ n := by simpa using hne
      omega
    have hd' := d (by omega)
    have hge : le (At K p m) (At K p (m - 1)) = true := by
      rcases tot (At K p m) (At K p (m - 1)) with h | h
      · exact h
      · rw [hd'] at h; cases h
    split
    · rename_i hm1
      refine ⟨hp.lt (by omega), hp.lt (by omega), ?_⟩
      cases e : ltK le K (p.getD 0 0) (p.getD (m - 1) 0) with
      | true =>
        dsimp only
        rw [if_pos rfl]
        exact ⟨hp, c, a, by show m ≤ n; omega⟩
      | false =>
        dsimp only
        rw [if_neg (by decide)]
        have h3 : le (At K p (m - 1)) (At K p 0) = true := by unfold ltK at e; simpa [At] using e
        have all0 : ∀ i, i < m → At K p i = At K p 0 := fun i hi => anti _ _ (tr _ _ _ (asc_le tot tr K c i (m - 1) (by omega) (by omega)) h3) (asc_le tot tr K c 0 i (by omega) hi)
        have hk : ∀ k, At K (kas_rev p 0 m) k = At K p k := fun k => by
          rw [At_rev K (by omega)]
          split
          · rename_i h; rw [all0 _ (by omega), all0 k h.2]
          · rfl
        refine descPart_good tot anti K (hp.rev 0 m) (fun i hi => ?_) (by omega)
        rw [hk, hk]
        by_cases hm : i + 1 = m
        · have : i = m - 1 := by omega
          rw [hm, this]; exact hge
        · rw [all0 (i + 1) (by omega), all0 i (by omega)]
          rcases tot (At K p 0) (At K p 0) with h | h <;> exact h
    · refine descPart_good tot anti K hp (fun i hi => ?_) (by omega)
      have : i = 0 ∧ m = 1 := by omega
      obtain ⟨rfl, rfl⟩ := this
      exact hge
include tot in
theorem place_good {n : Nat} {p : Array Nat} (hp : PA n p) {k : Nat} (hk : k < n) (hasc : ∀ i j, i ≤ j → j < k → le (At K p i) (At K p j) = true) (tr' : ∀ a b c, le a b = true → le b c = true → le a c = true) : ∀ (f l r : Nat), l ≤ r → r ≤ k → r - l ≤ f → (∀ i, i < l → le (At K p i) (At K p k) = true) → (∀ i, r ≤ i → i < k → le (At K p k) (At K p i) = true) →
    Good (ltK le K) n (kas_place p k f l r) (fun l' => l' ≤ k ∧ (∀ i, i < l' → le (At K p i) (At K p k) = true) ∧ ∀ i, l' ≤ i → i < k → le (At K p k) (At K p i) = true)
  | 0, l, r, h1, h2, h3, h4, h5 => ⟨by omega, h4, fun i hi => h5 i (by omega)⟩
  | f + 1, l, r, h1, h2, h3, h4, h5 => by
    unfold kas_place
    split
    · exact ⟨by omega, h4, fun i hi => h5 i (by omega)⟩
    · rename_i hlr
      refine ⟨hp.lt hk, hp.lt (by omega), ?_⟩
      cases e : ltK le K (p.getD k 0) (p.getD ((l + r) / 2) 0) with
      | true =>
        dsimp only
        rw [if_pos rfl]
        have hlt : le (At K p ((l + r) / 2)) (At K p k) = false := by unfold ltK at e; simpa [At] using e
        have hge : le (At K p k) (At K p ((l + r) / 2)) = true := by
          rcases tot (At K p k) (At K p ((l + r) / 2)) with h | h
          · exact h
          · rw [hlt] at h; cases h
        exact place_good hp hk hasc tr' f l _ (by omega) (by omega) (by omega) h4 fun i hi1 hi2 => tr' _ _ _ hge (hasc _ _ hi1 hi2)
      | false =>
        dsimp only
        rw [if_neg (by decide)]
        have hle : le (At K p ((l + r) / 2)) (At K p k) = true := by unfold ltK at e; simpa [At] using e
        exact place_good hp hk hasc tr' f _ r (by omega) h2 (by omega) (fun i hi => tr' _ _ _ (hasc i ((l + r) / 2) (by omega) (by omega)) hle) h5
include tot tr in
theorem bin_good {n : Nat} : ∀ (f : Nat) (p : Array Nat) (k : Nat), PA n p → Asc le K p k → k + f = n → Good (ltK le K) n (kas_bin f p k) (fun q => PA n q ∧ Asc le K q n)
  | 0, p, k, hp, ha, hk => ⟨hp, by rw [← hk, Nat.add_zero]; exact ha⟩
  | f + 1, p, k, hp, ha, hk => by
    unfold kas_bin
    have hsz := hp.size
    refine Good.bind ((place_good tot K hp (by omega) (asc_le tot tr K ha) tr k 0 k (by omega) (by omega) (by omega) (fun i hi => by omega) (fun i h1 h2 => by omega)).mono fun l ⟨h1, h2, h3⟩ => ?_)
    have hb : ∀ i, At K (bubble p k (k - l)) i = if i = l then At K p k else if l < i ∧ i ≤ k then At K p (i - 1) else At K p i := fun i => by
      have e := getElem?_bubble (xs := p) (src := k) (by omega) (k - l) (by omega) i
      have e1 : k - (k - l) = l := by omega
      rw [e1] at e
      split
      · rename_i h; rw [if_pos h] at e; exact At_eq K e
      · rename_i h
        rw [if_neg h] at e
        split
        · rename_i h'; rw [if_pos h'] at e; exact At_eq K e
        · rename_i h'; rw [if_neg h'] at e; exact At_eq K e
    refine bin_good f _ (k + 1) ((bubble_perm _ _ _).trans hp) (fun i hi => ?_) (by omega)
    rw [hb, hb]
    by_cases c1 : i + 1 = l
    · rw [if_neg (by omega), if_neg (by omega), if_pos c1]
      exact h2 i (by omega)
    · by_cases c2 : i = l
      · rw [if_pos c2, if_neg (by omega), if_pos (by omega), Nat.add_sub_cancel]
        exact h3 i (by omega) (by omega)
      · rw [if_neg c2, if_neg c1]
        by_cases c3 : l < i
        · rw [if_pos (by omega), if_pos (by omega), Nat.add_sub_cancel]
          have := ha (i - 1) (by omega)
          have e : i - 1 + 1 = i := by omega
          rw [e] at this; exact this
        · rw [if_neg (by omega), if_neg (by omega)]
          exact ha i (by omega)
include tot tr anti in
theorem sort_good {n : Nat} (h1 : 1 ≤ n) : Good (ltK le K) n (kas_sort n) (fun q => PA n q ∧ Asc le K q n) := by
  unfold kas_sort
  refine Good.bind ((count_good tot tr anti K (p := (List.range n).toArray) (Array.Perm.refl _) h1).mono fun r ⟨a, b, c, d⟩ => ?_)
  split
  · have e : max r.1 1 = r.1 := by omega
    rw [e]
    exact bin_good tot tr K _ _ _ a b (by omega)
  · have e : r.1 = n := by omega
    exact ⟨a, e ▸ b⟩
end
end Mine

namespace Mine
open PySem PySem.W PySem.Calls PyProof.Rows

/-- pairs in their order -/
noncomputable def leP (a b : Int × Int) : Bool := decide (a.1 < b.1) || (a.1 == b.1 && decide (a.2 ≤ b.2))
noncomputable def sortP (l : List (Int × Int)) : List (Int × Int) := isort leP l
noncomputable def tupP (p : Int × Int) : CV := .tup [.int p.1, .int p.2]
theorem leP_tot (a b : Int × Int) : leP a b = true ∨ leP b a = true := by
  unfold leP
  simp only [Bool.or_eq_true, Bool.and_eq_true, decide_eq_true_eq, beq_iff_eq]
  omega
theorem leP_tr (a b c : Int × Int) (h1 : leP a b = true) (h2 : leP b c = true) : leP a c = true := by
  unfold leP at *
  simp only [Bool.or_eq_true, Bool.and_eq_true, decide_eq_true_eq, beq_iff_eq] at *
  omega
theorem leP_anti (a b : Int × Int) (h1 : leP a b = true) (h2 : leP b a = true) : a = b := by
  unfold leP at *
  simp only [Bool.or_eq_true, Bool.and_eq_true, decide_eq_true_eq, beq_iff_eq] at *
  obtain ⟨x, y⟩ := a
  obtain ⟨z, u⟩ := b
  simp only at h1 h2
  have e1 : x = z := by omega
  have e2 : y = u := by omega
  rw [e1, e2]

/-- a value that is a tuple of two ints -/
noncomputable def PairAt (h : Heap) (v : Value) (p : Int × Int) : Prop := ∃ a o n t u, v = .ref a ∧ h.get? a = some o ∧ o.cls = .type "tuple" ∧ o.data = .seq #[.int p.1 t, .int p.2 u] n
noncomputable def PairsAt (h : Heap) (vs : List Value) (ps : List (Int × Int)) : Prop := vs.length = ps.length ∧ ∀ i, i < ps.length → PairAt h (vs.getD i .none) (ps.getD i (0, 0))
theorem PairAt.keeps {h h' : Heap} {v p} (x : PairAt h v p) (hk : ∀ b o, h.get? b = some o → h'.get? b = some o) : PairAt h' v p :=
  let ⟨a, o, n, t, u, e, ho, r⟩ := x; ⟨a, o, n, t, u, e, hk _ _ ho, r⟩
theorem Rels.pairs {X h n} : ∀ {ps : List (Int × Int)} {vs : List Value}, Rels X h n (ps.map tupP) vs → PairsAt h vs ps
  | [], _, r => by rw [show _ = ([] : List Value) from r]; exact ⟨rfl, fun i hi => absurd hi (Nat.not_lt_zero _)⟩
  | p :: ps, _, ⟨v, vs', e, ⟨a, its, e2, _, ⟨o, ho, hc, m, hd⟩, rs⟩, rr⟩ => by
    obtain ⟨h1, h2⟩ := Rels.pairs rr
    subst e e2
    refine ⟨by rw [List.length_cons, List.length_cons, h1], fun i hi => ?_⟩
    cases i with
    | succ i => exact h2 i (by simpa using hi)
    | zero =>
      obtain ⟨w1, ws, q, ⟨t, q1⟩, w2, ws2, q2, ⟨u, q3⟩, q4⟩ := rs
      subst q1 q2 q3
      rw [show ws2 = [] from q4] at q
      refine ⟨a, o, m, t, u, rfl, ho, hc, ?_⟩
      rw [hd]
      congr 1
      exact Array.toList_inj.mp q
theorem tups_of : ∀ {h : Heap} {vs : List Value} {ps : List (Int × Int)}, PairsAt h vs ps → ∃ fs, KatTups h vs fs ∧ fs.length = vs.length ∧ ∀ v ∈ fs, ∃ i t, v = .int i t
  | h, [], ps, _ => ⟨[], KatTups.nil, rfl, by simp⟩
  | h, v :: vs, [], x => by have := x.1; simp at this
  | h, v :: vs, p :: ps, ⟨hl, x⟩ => by
    obtain ⟨fs, k1, k2, k3⟩ := tups_of (h := h) (vs := vs) (ps := ps) ⟨by simpa using hl, fun i hi => x (i + 1) (by simpa using hi)⟩
    obtain ⟨a, o, n, t, u, e, ho, hc, hd⟩ := x 0 (by simp)
    have e' : v = .ref a := e
    subst e'
    refine ⟨.int p.1 t :: fs, KatTups.cons ho hc hd rfl k1, by rw [List.length_cons, List.length_cons, k2], fun v hv => ?_⟩
    rcases List.mem_cons.mp hv with rfl | hv
    · exact ⟨_, _, rfl⟩
    · exact k3 v hv

section
variable {prog : Program} {w : World} {A : Around} {E : Value → Shared → Prop} {s : Shared}

theorem lt_pairs {x y : Value} {p q : Int × Int} {Q : Bool → Shared → Prop} (hx : PairAt s.heap x p) (hy : PairAt s.heap y q) (h : Q (!(leP q p)) s) : wpAny (model prog w) A (keyLt' (tuples' true) x y) Q (fun _ _ => False) s := by
  obtain ⟨a, o, n, t, u, rfl, ho, _, hd⟩ := hx
  obtain ⟨a', o', n', t', u', rfl, ho', _, hd'⟩ := hy
  refine kat_lt ho hd ho' hd' ?_
  refine kat_cons (wpAny_eqBool_int ?_)
  refine kat_go (fun e1 => kat_yes (kat_cons (wpAny_eqBool_int (kat_go (fun e2 => kat_yes (kat_nil ?_)) (fun e2 => kat_no ?_))))) (fun e1 => kat_no ?_)
  · have g1 : p.1 = q.1 := by simpa using e1
    have g2 : p.2 = q.2 := by simpa using e2
    have : (!(leP q p)) = false := by unfold leP; simp [g1, g2]
    rw [this] at h
    exact h
  · have g1 : p.1 = q.1 := by simpa using e1
    have g2 : p.2 ≠ q.2 := by simpa using e2
    refine kat_one _ _ (lt_int ?_)
    have : (!(leP q p)) = decide (p.2 < q.2) := by
      unfold leP
      have g3 : (q.1 == p.1) = true := by simpa using g1.symm
      rw [g3, Bool.true_and, decide_eq_false (show ¬ q.1 < p.1 by omega), Bool.false_or]
      by_cases hlt : p.2 < q.2
      · rw [decide_eq_true hlt, decide_eq_false (by omega)]; rfl
      · rw [decide_eq_false hlt, decide_eq_true (by omega)]; rfl
    rw [this] at h
    exact h
  · have g1 : p.1 ≠ q.1 := by simpa using e1
    refine oneLt_int ?_
    have : (!(leP q p)) = decide (p.1 < q.1) := by
      unfold leP
      have g2 : (q.1 == p.1) = false := by simpa using fun h => g1 h.symm
      rw [g2, Bool.false_and, Bool.or_false]
      by_cases hlt : p.1 < q.1
      · rw [decide_eq_true hlt, decide_eq_false (by omega)]; rfl
      · rw [decide_eq_false hlt, decide_eq_true (by omega)]; rfl
    rw [this] at h
    exact h

theorem list_sort_pairs {a : Addr} {vs : List Value} {ps : List (Int × Int)} {n : Nat} {P : PySem.Fin → Shared → Prop} (ho : s.heap.get? a = some (seqObj "list" vs.toArray n)) (hI : PairsAt s.heap vs ps) (hna : ∀ v ∈ vs, v ≠ .ref a) (h2 : 2 ≤ vs.length) (h64 : vs.length < 64)
    (h : ∀ p : Array Nat, PA vs.length p → Asc leP (fun i => ps.getD i (0, 0)) p vs.length → P (.done (.ret .none)) { s with heap := sortedHeap s.heap a vs (p.toList.map fun i => vs.getD i Value.none).toArray }) :
    wpAny (model prog w) A (Builtin.«list.sort» ⟨[.ref a], []⟩) P E s := by
  rw [list_sort_plain]
  have ha : a < s.heap.objs.size := Heap.lt_size ho
  refine wpAny_bind (listItems_at ho rfl ?_)
  refine wpAny_bind (listUpdate_at ho rfl ?_ (by rw [List.size_toArray, sizeLine_eq]; omega) (Nat.zero_le _))
  obtain ⟨e1, ho1⟩ : ∃ e1, (s.heap.update a (Obj.mapSeq fun _ => (#[] : Array Value))).get? a = some (seqObj "list" #[] e1) := ⟨_, get?_update_seq ho (fun _ => #[])⟩
  refine wpAny_bind (seqEpoch_at ho1 rfl ?_)
  refine wpAny_bind (wpAny_newTuple ?_ (by show vs.length ≤ _; rw [sizeLine_eq]; omega))
  refine wpAny_bind (wpAny_newList ?_ (Nat.zero_le _))
  refine wpAny_holding ?_
  have ho6 : (((s.heap.update a (Obj.mapSeq fun _ => (#[] : Array Value))).push (seqObj "tuple" vs.toArray 0)).push (seqObj "list" #[] 0)).get? a = some (seqObj "list" #[] e1) :=
    Heap.get?_push_of_some _ (Heap.get?_push_of_some _ ho1)
  have hkeep : ∀ b o, b ≠ a → s.heap.get? b = some o → (((s.heap.update a (Obj.mapSeq fun _ => (#[] : Array Value))).push (seqObj "tuple" vs.toArray 0)).push (seqObj "list" #[] 0)).get? b = some o := fun b o hb e =>
    Heap.get?_push_of_some _ (Heap.get?_push_of_some _ (by rw [Heap.get?_update_ne _ _ _ _ hb]; exact e))
  have hI' : PairsAt (((s.heap.update a (Obj.mapSeq fun _ => (#[] : Array Value))).push (seqObj "tuple" vs.toArray 0)).push (seqObj "list" #[] 0)) vs ps := by
    refine ⟨hI.1, fun i hi => ?_⟩
    obtain ⟨b, o, m, t, u, e, hb, r⟩ := hI.2 i hi
    refine ⟨b, o, m, t, u, e, hkeep b o (fun q => ?_) hb, r⟩
    have hlt : i < vs.length := by rw [hI.1]; exact hi
    have hm : vs.getD i Value.none ∈ vs := by
      have : vs.getD i Value.none = vs[i] := by simp [hlt]
      rw [this]; exact List.getElem_mem hlt
    exact hna _ hm (by rw [e, q])
  show wpAny (model prog w) A _ P E { s with heap := ((s.heap.update a (Obj.mapSeq fun _ => (#[] : Array Value))).push (seqObj "tuple" vs.toArray 0)).push (seqObj "list" #[] 0) }
  dsimp only
  have hn2 : ¬ vs.toArray.size < 2 := by rw [List.size_toArray]; omega
  rw [if_neg hn2, if_neg hn2]
  obtain ⟨fs, k1, k2, k3⟩ := tups_of hI'
  refine wpAny_bind (kat_kind k1 (by omega) (T := .type "int") (fun v hv => ?_) (by rfl) ?_)
  · obtain ⟨i, t, rfl⟩ := k3 v hv
    exact Looks.of_pure rfl
  rw [show (Value.type "int" != Value.type "tuple") = true from by decide]
  have G : Good (ltK leP fun i => ps.getD i (0, 0)) vs.length (kas_sort vs.length) (fun q => PA vs.length q ∧ Asc leP (fun i => ps.getD i (0, 0)) q vs.length) := sort_good leP_tot leP_tr leP_anti _ (by omega)
  have W := Good.wp (cmp := kas_ask prog w A (tuples' true) vs) (R := fun q s' => (PA vs.length q ∧ Asc leP (fun i => ps.getD i (0, 0)) q vs.length) ∧ s' = { s with heap := ((s.heap.update a (Obj.mapSeq fun _ => (#[] : Array Value))).push (seqObj "tuple" vs.toArray 0)).push (seqObj "list" #[] 0) }) (s := { s with heap := ((s.heap.update a (Obj.mapSeq fun _ => (#[] : Array Value))).push (seqObj "tuple" vs.toArray 0)).push (seqObj "list" #[] 0) })
    (fun i j C hi hj hC => lt_pairs (hI'.2 i (by rw [← hI.1]; exact hi)) (hI'.2 j (by rw [← hI.1]; exact hj)) hC) (fun q hq => ⟨hq, rfl⟩) G
  refine wpAny_bind (wpAny_mono (kat_run (Q := fun st' s' => ∃ p : Array Nat, arrOf st' = p.map (kas_item (vs.toArray.zip vs.toArray)) ∧ failedOf st' = none ∧ (PA vs.length p ∧ Asc leP (fun i => ps.getD i (0, 0)) p vs.length) ∧ s' = { s with heap := ((s.heap.update a (Obj.mapSeq fun _ => (#[] : Array Value))).push (seqObj "tuple" vs.toArray 0)).push (seqObj "list" #[] 0) })
    rfl h2 h64 (fun p' st' s' a1 a2 a3 a4 => ⟨p', a2, a3, a4.1, a4.2⟩) W) ?_ fun _ _ e => e)
  rintro ⟨⟨⟩, st'⟩ s' ⟨p, har, hf, ⟨hp, hasc⟩, rfl⟩
  dsimp only
  have hout := kat_snds (ks := vs) (vs := vs) rfl har
  rw [hout]
  refine wpAny_bind (seqEpoch_at ho6 rfl ?_)
  refine wpAny_bind (listUpdate_at ho6 rfl ?_ (Nat.zero_le _) (by rw [List.size_toArray, List.length_map, Array.length_toList, hp.size, sizeLine_eq]; omega))
  rw [hf]
  simp only [bne_self_eq_false, Bool.false_eq_true, if_false]
  exact wpAny_pure (h p hp hasc)

theorem sorted_pairs {l : Addr} {vs : List Value} {ps : List (Int × Int)} {Q : Value → Shared → Prop} (hl : s.heap.IsList l vs.toArray) (hI : PairsAt s.heap vs ps) (h2 : 2 ≤ vs.length) (h64 : vs.length < 64)
    (h : ∀ p : Array Nat, PA vs.length p → Asc leP (fun i => ps.getD i (0, 0)) p vs.length → Q (.ref (s.heap.objs.size + 1)) { s with heap := sortedAll s.heap vs (p.toList.map fun i => vs.getD i Value.none).toArray }) :
    wpAny (model prog w) A (call (.builtin "sorted") [.ref l]) Q E s := by
  refine Calls.call_function_entry kind_sorted plain_sorted entry_sorted (args_sorted1 _) ?_
  unfold Builtin.«sorted»
  refine wpAny_bind (m := checkCount "sorted" 1 1 _) (wpAny_pure ?_)
  refine wpAny_bind (collect_list hl ?_ (by rw [sizeLine_eq]; omega))
  refine wpAny_bind (wpAny_newList ?_ (by rw [sizeLine_eq]; omega))
  have hsz : ((s.heap.push (seqObj "list" #[] 0)).update s.heap.objs.size (Obj.mapSeq (· ++ vs.toArray))).objs.size = s.heap.objs.size + 1 := by
    rw [Heap.size_update, size_push']
  have hoL : (((s.heap.push (seqObj "list" #[] 0)).update s.heap.objs.size (Obj.mapSeq (· ++ vs.toArray))).push (seqObj "list" vs.toArray 0)).get? (s.heap.objs.size + 1) = some (seqObj "list" vs.toArray 0) := by
    rw [← hsz]; exact Heap.get?_push_size _ rfl
  have keep : ∀ b o, s.heap.get? b = some o → (((s.heap.push (seqObj "list" #[] 0)).update s.heap.objs.size (Obj.mapSeq (· ++ vs.toArray))).push (seqObj "list" vs.toArray 0)).get? b = some o := fun b o q => by
    have hlt : b < s.heap.objs.size := Heap.lt_size q
    rw [Heap.get?_push_ne _ _ _ (by rw [hsz]; exact Nat.ne_of_lt (Nat.lt_succ_of_lt hlt)), Heap.get?_update_ne _ _ _ _ (Nat.ne_of_lt hlt), Heap.get?_push_ne _ _ _ (Nat.ne_of_lt hlt)]
    exact q
  have hna : ∀ v ∈ vs, v ≠ .ref (s.heap.objs.size + 1) := fun v hv e => by
    obtain ⟨i, hi, rfl⟩ := List.getElem_of_mem hv
    obtain ⟨b, o, m, t, u, e2, hb, _⟩ := hI.2 i (by rw [← hI.1]; exact hi)
    have e3 : vs.getD i Value.none = vs[i] := by simp [hi]
    rw [e3, e] at e2
    cases e2
    exact Nat.lt_irrefl _ (Nat.lt_of_succ_lt (Heap.lt_size hb))
  show wpAny _ _ _ _ _ { s with heap := ((s.heap.push (seqObj "list" #[] 0)).update s.heap.objs.size (Obj.mapSeq (· ++ vs.toArray))).push (seqObj "list" vs.toArray 0) }
  rw [hsz]
  refine wpAny_bind (wpAny_holding (wpAny_call_entry slot_list_sort ⟨_, hoL, rfl⟩ entry_list_sort (list_sort_pairs (s := { s with heap := ((s.heap.push (seqObj "list" #[] 0)).update s.heap.objs.size (Obj.mapSeq (· ++ vs.toArray))).push (seqObj "list" vs.toArray 0) }) hoL ⟨hI.1, fun i hi => (hI.2 i hi).keeps keep⟩ hna h2 h64 fun p a1 a2 => ⟨_, rfl, ?_⟩) (args_list_sort _)))
  exact wpAny_pure ⟨_, rfl, h p a1 a2⟩
end

theorem Rels.permuted {X h n} {cs : List CV} {vs : List Value} {d : CV} (r : Rels X h n cs vs) : ∀ is : List Nat, (∀ i ∈ is, i < cs.length) → Rels X h n (is.map fun i => cs.getD i d) (is.map fun i => vs.getD i .none)
  | [], _ => rfl
  | i :: is, hi => by
    have h1 := hi i List.mem_cons_self
    obtain ⟨v, hv, rv⟩ := r.get (List.getElem?_eq_getElem h1)
    refine ⟨v, _, ?_, ?_, Rels.permuted r is fun j hj => hi j (List.mem_cons_of_mem _ hj)⟩
    · rw [List.map_cons, List.getD_eq_getElem?_getD, hv]; rfl
    · show Rel X h n (cs.getD i d) v
      rw [List.getD_eq_getElem?_getD, List.getElem?_eq_getElem h1]; exact rv
theorem map_getD_range {α : Type} (d : α) : ∀ l : List α, (List.range l.length).map (fun i => l.getD i d) = l
  | [] => rfl
  | a :: l => by
    rw [List.length_cons, List.range_succ_eq_map, List.map_cons, List.map_map]
    congr 1
    exact map_getD_range d l
theorem sorted_eq {ps : List (Int × Int)} {p : Array Nat} (hp : PA ps.length p) (ha : Asc leP (fun i => ps.getD i (0, 0)) p ps.length) : p.toList.map (fun i => ps.getD i (0, 0)) = sortP ps := by
  refine sorted_unique leP_anti (List.Perm.trans ?_ (isort_perm leP ps).symm) ?_ (isort_sorted leP_tot leP_tr ps)
  · have h1 : p.toList.Perm (List.range ps.length) := Array.perm_iff_toList_perm.mp hp
    have h2 := h1.map fun i => ps.getD i (0, 0)
    rw [map_getD_range] at h2
    exact h2
  · rw [List.pairwise_iff_getElem]
    intro i j hi hj hij
    have hsz := hp.size
    have hj' : j < ps.length := by simpa [hsz] using hj
    have hi' : i < ps.length := by omega
    have := asc_le leP_tot leP_tr (fun i => ps.getD i (0, 0)) ha i j (by omega) hj'
    have e : ∀ k (hk : k < ps.length), At (fun i => ps.getD i (0, 0)) p k = ps.getD (p.toList[k]'(by simpa [hsz] using hk)) (0, 0) := fun k hk => by
      unfold At
      have hk' : k < p.size := by omega
      have e1 : p.getD k 0 = p[k] := by simp [Array.getD, hk']
      rw [e1]; simp
    rw [e i hi', e j hj'] at this
    simpa using this

section
variable {prog : Program} {w : World} {hB : Heap}
theorem bi_sortedP {l : List (Int × Int)} (h2 : 2 ≤ l.length) (h64 : l.length < 64) : Bi prog w hB (.builtin "sorted") [.list (l.map tupP)] (.list ((sortP l).map tupP)) := by
  refine ⟨?_⟩
  rintro X A E s vs hr hb ⟨v, vs', rfl, ⟨a, its, rfl, ha, hl, rs⟩, rfl⟩ hx
  have hlen := rs.length
  rw [List.length_map] at hlen
  refine sorted_pairs (vs := its.toList) (by simpa using hl.isList) rs.pairs (by omega) (by omega) fun p hp hasc => ?_
  rw [hlen] at hp hasc
  obtain ⟨n, hat⟩ := sortedAll_at s.heap its.toList (p.toList.map fun i => its.toList.getD i Value.none).toArray
  have kp : Kp s { s with heap := sortedAll s.heap its.toList (p.toList.map fun i => its.toList.getD i Value.none).toArray } := Kp.of (fun b o e => sortedAll_old e) (Nat.le_refl s.toks)
  have hlt : ∀ i ∈ p.toList, i < l.length := fun i hi => by
    have : i ∈ (List.range l.length).toArray := hp.mem_iff.mp (by simpa using hi)
    simpa using this
  refine ⟨⟨_, _, rfl, fun hm => ?_, ⟨n, hat⟩, ?_⟩, kp⟩
  · obtain ⟨o, ho⟩ := (hx _ hm).2
    exact Nat.lt_irrefl _ (Nat.lt_of_succ_lt (Heap.lt_size ho))
  · have r2 := (rs.kp (Kp.any (W := X) kp)).permuted (d := tupP (0, 0)) p.toList (by rw [List.length_map]; exact hlt)
    have e : (p.toList.map fun i => (l.map tupP).getD i (tupP (0, 0))) = (sortP l).map tupP := by
      rw [← sorted_eq hp hasc, List.map_map]
      refine List.map_congr_left fun i _ => ?_
      rw [List.getD_eq_getElem?_getD, List.getElem?_map]
      show (Option.map tupP l[i]?).getD (tupP (0, 0)) = tupP (l.getD i (0, 0))
      rw [List.getD_eq_getElem?_getD]
      cases l[i]? <;> rfl
    rw [e] at r2
    simpa using r2
end
end Mine

namespace Mine
open PySem PySem.W PySem.Calls PyProof.Rows

abbrev pw : Program := PySem.Challenge.pw_to0029_01
noncomputable def defOf : Stmt → Option DefRec
  | .FunctionDef n a b _ _ _ sc _ _ pos => some ⟨n, a, b, sc, pos⟩
  | _ => none
noncomputable def noDef : DefRec := ⟨"", ⟨[], [], none, [], [], none, []⟩, [], { kind := .function, names := [], isGenerator := false, isCoroutine := false, more := [] }, ⟨0, 0, 0, 0⟩⟩
noncomputable def defAt (j : Nat) : DefRec := ((pw.main.body[j]?).bind defOf).getD noDef
noncomputable def defs : List DefRec := [defAt 2, defAt 4, defAt 6, defAt 7, defAt 8, defAt 9, defAt 10, defAt 11, defAt 12, defAt 16, defAt 18, defAt 19, defAt 20, defAt 21, defAt 22, defAt 23, defAt 24, defAt 25]

section
variable {prog : Program} {w : World} {hB : Heap} {k : Nat} {env : Env} {σ : Sig} {mg mb : Str → Option Value}

theorem ev_bin_ {l r : Expr} {op : Operator} {pos : Pos} {c d q : CV} (h1 : Ev prog w hB k env σ l c) (h2 : Ev prog w hB k env σ r d) (o : OpOk prog w hB (binaryOp op) c d q) : Ev prog w hB k env σ (.BinOp l op r pos) q := ev_bin o h1 h2
theorem ev_cmp_ {l r : Expr} {op : CmpOp} {pos : Pos} {c d q : CV} (h1 : Ev prog w hB k env σ l c) (h2 : Ev prog w hB k env σ r d) (hm : behindInMarks op r = false) (o : OpOk prog w hB (compareOp op) c d q) : Ev prog w hB k env σ (.Compare l [op] [r] pos) q := ev_cmp o h1 h2 hm
theorem run_conv {body : List Stmt} {c d : CV} (h : Run prog w hB k env σ body c) (e : c = d) : Run prog w hB k env σ body d := e ▸ h

/-- a def of two arguments, both the frame's locals -/
theorem fn2 (D : DefsAt hB mg defs) (G : Glob hB mg mb) {d : DefRec} (hd : d ∈ defs) {x y : Str} {cx cy c : CV}
    (hb : ∀ pm code doc (a b : Value), bindArgs (docDef d.name d.params d.body d.scope pm code doc) ⟨[a, b], []⟩ = pure ([x, y].zip [a, b]))
    (hkind : ([x, y].all fun x => d.scope.names.lookup x == some .local || (d.scope.names.lookup x == some .cell && ((cellsFrom 0 d.scope.names []).lookup x).isSome)) = true) (hne : x ≠ y)
    (hco : d.scope.isCoroutine = false) (hgen : d.scope.isGenerator = false) (hk : d.scope.kind = .function)
    (h : ∀ L a cd, Run prog w hB k (envF d L a cd) [(x, cx), (y, cy)] d.body c) : Fn prog w hB mg (k + 1) d.name [cx, cy] c := by
  refine fn_of (k := k) D G hd (ps := [x, y]) (fun pm code doc vs hv => ?_) hkind (by simpa using hne) rfl hco hgen hk h
  match vs, hv with
  | [a, b], _ => exact hb pm code doc a b
theorem fn1 (D : DefsAt hB mg defs) (G : Glob hB mg mb) {d : DefRec} (hd : d ∈ defs) {x : Str} {cx c : CV}
    (hb : ∀ pm code doc (a : Value), bindArgs (docDef d.name d.params d.body d.scope pm code doc) ⟨[a], []⟩ = pure ([x].zip [a]))
    (hkind : ([x].all fun x => d.scope.names.lookup x == some .local || (d.scope.names.lookup x == some .cell && ((cellsFrom 0 d.scope.names []).lookup x).isSome)) = true)
    (hco : d.scope.isCoroutine = false) (hgen : d.scope.isGenerator = false) (hk : d.scope.kind = .function)
    (h : ∀ L a cd, Run prog w hB k (envF d L a cd) [(x, cx)] d.body c) : Fn prog w hB mg (k + 1) d.name [cx] c := by
  refine fn_of (k := k) D G hd (ps := [x]) (fun pm code doc vs hv => ?_) hkind (by simp) rfl hco hgen hk h
  match vs, hv with
  | [a], _ => exact hb pm code doc a

theorem fn_add (D : DefsAt hB mg defs) (G : Glob hB mg mb) {i j : Int} : Fn prog w hB mg 1 "add" [.int i, .int j] (.int (i + j)) := by
  refine fn2 D G (d := defAt 8) (x := "a") (y := "b") (by simp [defs]) (fun _ _ _ _ _ => rfl) (by decide +kernel) (by decide +kernel) rfl rfl rfl fun L a cd => run_ret (ev_bin_ ?_ ?_ op_add)
  all_goals (refine ev_name ?_ (by decide +kernel) (by decide +kernel); (repeat (first | exact lookup_hd | refine lookup_tl (by decide +kernel) ?_)))
theorem fn_mul (D : DefsAt hB mg defs) (G : Glob hB mg mb) {i j : Int} (h : IntMulOk i j) : Fn prog w hB mg 1 "mul" [.int i, .int j] (.int (i * j)) := by
  refine fn2 D G (d := defAt 10) (x := "a") (y := "b") (by simp [defs]) (fun _ _ _ _ _ => rfl) (by decide +kernel) (by decide +kernel) rfl rfl rfl fun L a cd => run_ret (ev_bin_ ?_ ?_ (op_mul h))
  all_goals (refine ev_name ?_ (by decide +kernel) (by decide +kernel); (repeat (first | exact lookup_hd | refine lookup_tl (by decide +kernel) ?_)))
theorem fn_and (D : DefsAt hB mg defs) (G : Glob hB mg mb) {i j : Int} : Fn prog w hB mg 1 "and_" [.int i, .int j] (.tint (Builtin.bitAnd i j)) := by
  refine fn2 D G (d := defAt 9) (x := "a") (y := "b") (by simp [defs]) (fun _ _ _ _ _ => rfl) (by decide +kernel) (by decide +kernel) rfl rfl rfl fun L a cd => run_ret (ev_bin_ ?_ ?_ op_and)
  all_goals (refine ev_name ?_ (by decide +kernel) (by decide +kernel); (repeat (first | exact lookup_hd | refine lookup_tl (by decide +kernel) ?_)))
theorem fn_rshift (D : DefsAt hB mg defs) (G : Glob hB mg mb) {i j : Int} (h : 0 ≤ j) : Fn prog w hB mg 1 "rshift" [.int i, .int j] (.int (i.fdiv (2 ^ j.toNat))) := by
  refine fn2 D G (d := defAt 11) (x := "a") (y := "b") (by simp [defs]) (fun _ _ _ _ _ => rfl) (by decide +kernel) (by decide +kernel) rfl rfl rfl fun L a cd => run_ret (ev_bin_ ?_ ?_ (op_shr h))
  all_goals (refine ev_name ?_ (by decide +kernel) (by decide +kernel); (repeat (first | exact lookup_hd | refine lookup_tl (by decide +kernel) ?_)))
theorem fn_eq (D : DefsAt hB mg defs) (G : Glob hB mg mb) {i j : Str} : Fn prog w hB mg 1 "eq" [.str i, .str j] (.bool (i == j)) := by
  refine fn2 D G (d := defAt 6) (x := "a") (y := "b") (by simp [defs]) (fun _ _ _ _ _ => rfl) (by decide +kernel) (by decide +kernel) rfl rfl rfl fun L a cd => run_ret (ev_cmp_ ?_ ?_ rfl op_eqS)
  all_goals (refine ev_name ?_ (by decide +kernel) (by decide +kernel); (repeat (first | exact lookup_hd | refine lookup_tl (by decide +kernel) ?_)))
theorem fn_ne (D : DefsAt hB mg defs) (G : Glob hB mg mb) {i j : Str} : Fn prog w hB mg 1 "ne" [.str i, .str j] (.bool (i != j)) := by
  refine fn2 D G (d := defAt 7) (x := "a") (y := "b") (by simp [defs]) (fun _ _ _ _ _ => rfl) (by decide +kernel) (by decide +kernel) rfl rfl rfl fun L a cd => run_ret (ev_cmp_ ?_ ?_ rfl op_neS)
  all_goals (refine ev_name ?_ (by decide +kernel) (by decide +kernel); (repeat (first | exact lookup_hd | refine lookup_tl (by decide +kernel) ?_)))
noncomputable def scoll (i j : Str) : Int := b2i' (j.cps.toList < i.cps.toList) - b2i' (i.cps.toList < j.cps.toList)
theorem fn_strcoll (D : DefsAt hB mg defs) (G : Glob hB mg mb) {i j : Str} : Fn prog w hB mg 1 "_strcoll" [.str i, .str j] (.int (scoll i j)) := by
  refine fn2 D G (d := defAt 4) (x := "a") (y := "b") (by simp [defs]) (fun _ _ _ _ _ => rfl) (by decide +kernel) (by decide +kernel) rfl rfl rfl fun L a cd => run_ret (ev_bin_ (ev_cmp_ ?_ ?_ rfl op_gtS) (ev_cmp_ ?_ ?_ rfl op_ltS) op_subB)
  all_goals (refine ev_name ?_ (by decide +kernel) (by decide +kernel); (repeat (first | exact lookup_hd | refine lookup_tl (by decide +kernel) ?_)))
end
end Mine

namespace Mine
open PySem PySem.W PySem.Calls PyProof.Rows

noncomputable def letters : List Nat := [75, 83, 107, 115, 383, 119818, 119826, 119870]
noncomputable def ch (c : Nat) : Str := ⟨#[c]⟩
/-- what the table holds at the eight letters -/
noncomputable def b3look : Nat → Option Str
  | 383 => some "s"
  | 119818 => some "k"
  | 119826 => some "s"
  | 119870 => some "k"
  | _ => none
noncomputable def freeNames : List Str := ["range", "len", "sum", "int", "str", "ord", "sorted", "enumerate"]
structure Top (prog : Program) (w : World) (hB : Heap) (mg mb : Str → Option Value) : Prop where
  defs : DefsAt hB mg defs
  glob : Glob hB mg mb
  tab : ∃ a D, mg "b3_exceptions" = some (.ref a) ∧ IntTab prog w hB a D ∧ ∀ c ∈ letters, PySem.Spec.lookup (.int c) D = (b3look c).map .str
  move : ∃ t, mg "_MOVE_COST" = some (.int 2 t)
  case : ∃ t, mg "_CASE_COST" = some (.int 1 t)
  free : ∀ x ∈ freeNames, mg x = none

section
variable {prog : Program} {w : World} {hB : Heap} {k : Nat} {env : Env} {σ : Sig} {mg mb : Str → Option Value}

noncomputable def optC : Option Str → CV
  | some x => .str x
  | none => .none
theorem ev_get {x : Str} {p apos pos : Pos} {e : Expr} {i : Nat} (T : Top prog w hB mg mb) (hi : i ∈ letters) (he : Ev prog w hB k env σ e (.int i)) (hx : env.kindOf "b3_exceptions" = some .globalImplicit)
    (hbase : attributeBase (.Name "b3_exceptions" p) "get" env (eval (.Name "b3_exceptions" p) env) = eval (.Name "b3_exceptions" p) env) (hline : (apos.endLine == pos.line) = true)
    (htrees : backTo pos (starEach [e] env) = [(false, eval e env)]) : Ev prog w hB k env σ (.Call (.Attribute (.Name "b3_exceptions" p) "get" apos) [e] [] pos) (optC (b3look i)) := by
  refine ⟨?_⟩
  intro X A E s hr ok
  obtain ⟨a, D, hm, hT, hl⟩ := T.tab
  refine wpAny_Call_method1_late hbase hline htrees (ev_global T.glob ok hm hx (by decide +kernel) ?_)
  have hT1 : IntTab prog w s.heap a D := hT.keep ok.base.keep
  obtain ⟨lo, kvs, hd, hf⟩ := id hT1
  refine ⟨"dict", "dict.get", PySem.F.plainAttrs_dict, PySem.F.slot_dict_get, PySem.F.type_dict_get, hd.typeIs, hd.mapOf.noDict, ?_⟩
  refine Calls.callWith_builtin rfl (Calls.evalArgs_plain (Calls.spliced_cons (wpAny_mono (he.run X A E s hr ok) (fun v s₂ q2 => Calls.spliced_nil ?_) fun _ _ x => x)))
  obtain ⟨⟨t, rfl⟩, kp⟩ := q2
  refine call_get1_intTab (hT.keep (ok.base.kp0 kp).keep) fun v hv => ?_
  rw [hl i hi] at hv
  refine ⟨?_, kp.trans (Kp.toksOnly (Nat.le_succ _))⟩
  revert hv
  cases b3look i with
  | none =>
    intro hv
    have h1 : PySem.Reads s.heap v .none [] := hv _
    cases h1; rfl
  | some y =>
    intro hv
    have h1 : PySem.Reads s.heap v (.str y) [] := hv _
    cases h1; exact ⟨_, rfl⟩

noncomputable def b3S (c : Nat) : Str := (b3look c).getD (Txt.lower (ch c))
theorem fn_b3 (T : Top prog w hB mg mb) {c : Nat} (hc : c ∈ letters) : Fn prog w hB mg 2 "map_table_b3" [.str (ch c)] (.str (b3S c)) := by
  refine fn1 T.defs T.glob (d := defAt 2) (x := "code") (by simp [defs]) (fun _ _ _ _ => rfl) (by decide +kernel) rfl rfl rfl fun L a cd => ?_
  refine run_step (step_set (ev_get (x := "b3_exceptions") T hc (ev_bi (fv := .builtin "ord") T.glob bi_ord (T.free _ (by decide +kernel)) (by kernel_rfl) rfl (evs_cons (ev_name (by (repeat (first | exact lookup_hd | refine lookup_tl (by decide +kernel) ?_))) (by decide +kernel) (by decide +kernel)) evs_nil rfl) (by omega) rfl (by kernel_rfl) (by decide +kernel) (by decide +kernel)) (by kernel_rfl) rfl rfl rfl) (slot_local (by kernel_rfl)) rfl) ?_
  have hs : b3S c = (b3look c).getD (Txt.lower (ch c)) := rfl
  rw [hs]
  cases hq : b3look c with
  | some y =>
    refine run_if (tr_cmp op_isnot_none_s (ev_name (by (repeat (first | exact lookup_hd | refine lookup_tl (by decide +kernel) ?_))) (by decide +kernel) (by decide +kernel)) ev_none rfl) (fun _ => run_ret (ev_name (by (repeat (first | exact lookup_hd | refine lookup_tl (by decide +kernel) ?_))) (by decide +kernel) (by decide +kernel))) (fun h => nomatch h)
  | none =>
    refine run_if (tr_cmp op_isnot_none_n (ev_name (by (repeat (first | exact lookup_hd | refine lookup_tl (by decide +kernel) ?_))) (by decide +kernel) (by decide +kernel)) ev_none rfl) (fun h => nomatch h) (fun _ => run_ret (ev_meth0 (ev_name (by (repeat (first | exact lookup_hd | refine lookup_tl (by decide +kernel) ?_))) (by decide +kernel) (by decide +kernel)) (meth_lower (by show 1 ≤ 100; omega)) (by omega) rfl rfl))

noncomputable def lowC (c : Nat) : Str := Txt.lower (ch c)
noncomputable def scost (c d : Nat) : Int := if ch c == ch d then 0 else if lowC c == lowC d then 1 else 2
theorem fn_cost (T : Top prog w hB mg mb) {c d : Nat} : Fn prog w hB mg 2 "_substitution_cost" [.str (ch c), .str (ch d)] (.int (scost c d)) := by
  obtain ⟨t1, h1⟩ := T.move
  obtain ⟨t2, h2⟩ := T.case
  refine fn2 T.defs T.glob (d := defAt 16) (x := "ch_a") (y := "ch_b") (by simp [defs]) (fun _ _ _ _ _ => rfl) (by decide +kernel) (by decide +kernel) rfl rfl rfl fun L a cd => ?_
  have hs : scost c d = if ch c == ch d then 0 else if lowC c == lowC d then 1 else 2 := rfl
  rw [hs]
  refine run_if (tr_cmp op_eqS (ev_name (by (repeat (first | exact lookup_hd | refine lookup_tl (by decide +kernel) ?_))) (by decide +kernel) (by decide +kernel)) (ev_name (by (repeat (first | exact lookup_hd | refine lookup_tl (by decide +kernel) ?_))) (by decide +kernel) (by decide +kernel)) rfl) (fun h => ?_) (fun h => ?_)
  · rw [if_pos h]; exact run_ret ev_int
  rw [if_neg (by rw [h]; decide)]
  refine run_if (tr_cmp op_eqS (ev_meth0 (ev_name (by (repeat (first | exact lookup_hd | refine lookup_tl (by decide +kernel) ?_))) (by decide +kernel) (by decide +kernel)) (meth_lower (by show 1 ≤ 100; omega)) (by omega) rfl rfl) (ev_meth0 (ev_name (by (repeat (first | exact lookup_hd | refine lookup_tl (by decide +kernel) ?_))) (by decide +kernel) (by decide +kernel)) (meth_lower (by show 1 ≤ 100; omega)) (by omega) rfl rfl) rfl) (fun h => ?_) (fun h => ?_)
  · rw [if_pos (show (lowC c == lowC d) = true from h)]; exact run_ret (ev_gint T.glob h2 (by kernel_rfl) (by decide +kernel))
  · rw [if_neg (show ¬ (lowC c == lowC d) = true by rw [show (lowC c == lowC d) = false from h]; decide)]; exact run_ret (ev_gint T.glob h1 (by kernel_rfl) (by decide +kernel))
end
end Mine

namespace Mine
open PySem PySem.W PySem.Calls PyProof.Rows

section
variable {prog : Program} {w : World} {hB : Heap} {k : Nat} {env : Env} {σ : Sig} {mg mb : Str → Option Value}

theorem mulok {i j : Int} (h : i.natAbs < 2 ^ 60) : IntMulOk i j := by
  exact IntMulOk.of_left (intBits_le_64 (by omega) (by omega))

theorem tr_bool {e : Expr} {b : Bool} (h : Ev prog w hB k env σ e (.bool b)) (hs : ∀ whole, isTrue e env whole = (whole >>= fun v => standAt e.pos >>= fun _ => holding [v] (truthy v))) : Tr prog w hB k env σ e b := by
  refine ⟨?_⟩
  intro X A E s hr ok
  rw [hs]
  refine wpAny_bind (wpAny_mono (h.run X A E s hr ok) (fun v s' q => wpAny_bind (wpAny_standAt (wpAny_holding ?_))) fun _ _ x => x)
  obtain ⟨rfl, kp⟩ := q
  exact wpAny_truthy_bool ⟨rfl, kp⟩
theorem ev_conv {e : Expr} {c d : CV} (h : Ev prog w hB k env σ e c) (e1 : c = d) : Ev prog w hB k env σ e d := e1 ▸ h

noncomputable def unlike (c : Str) (d : Str) : Int := if c != d then 1 else 0
noncomputable def toldS (c d : Nat) : Int := if ch c == ch d then scost c d + unlike (b3S c) (ch d) else 2 * (scost c d + unlike (b3S c) (b3S d)) + (scoll (ch c) (ch d) + 1).fdiv (2 ^ (1 : Int).toNat)
theorem fn_told (T : Top prog w hB mg mb) {c d : Nat} (hc : c ∈ letters) (hd : d ∈ letters) : Fn prog w hB mg 3 "_law_told" [.str (ch c), .str (ch d)] (.int (toldS c d)) := by
  refine fn2 T.defs T.glob (d := defAt 18) (x := "one") (y := "two") (by simp [defs]) (fun _ _ _ _ _ => rfl) (by decide +kernel) (by decide +kernel) rfl rfl rfl fun L a cd => ?_
  have hs : toldS c d = if ch c == ch d then scost c d + unlike (b3S c) (ch d) else 2 * (scost c d + unlike (b3S c) (b3S d)) + (scoll (ch c) (ch d) + 1).fdiv (2 ^ (1 : Int).toNat) := rfl
  rw [hs]
  refine run_step (step_set (ev_call T.glob (fn_cost T) (by omega) (evs_cons (ev_name (by (repeat (first | exact lookup_hd | refine lookup_tl (by decide +kernel) ?_))) (by decide +kernel) (by decide +kernel)) (evs_cons (ev_name (by (repeat (first | exact lookup_hd | refine lookup_tl (by decide +kernel) ?_))) (by decide +kernel) (by decide +kernel)) evs_nil rfl) rfl) rfl (by kernel_rfl) (by decide +kernel)) (slot_local (by kernel_rfl)) rfl) ?_
  refine run_if (tr_bool (ev_call T.glob (fn_eq T.defs T.glob) (by omega) (evs_cons (ev_name (by (repeat (first | exact lookup_hd | refine lookup_tl (by decide +kernel) ?_))) (by decide +kernel) (by decide +kernel)) (evs_cons (ev_name (by (repeat (first | exact lookup_hd | refine lookup_tl (by decide +kernel) ?_))) (by decide +kernel) (by decide +kernel)) evs_nil rfl) rfl) rfl (by kernel_rfl) (by decide +kernel)) (fun _ => rfl)) (fun h => ?_) (fun h => ?_)
  · rw [if_pos h]
    refine run_ret (ev_call T.glob (fn_add T.defs T.glob) (by omega) (evs_cons (ev_name (by (repeat (first | exact lookup_hd | refine lookup_tl (by decide +kernel) ?_))) (by decide +kernel) (by decide +kernel)) (evs_cons (ev_if_i (tr_bool (ev_call T.glob (fn_ne T.defs T.glob) (by omega) (evs_cons (ev_call T.glob (fn_b3 T hc) (by omega) (evs_cons (ev_name (by (repeat (first | exact lookup_hd | refine lookup_tl (by decide +kernel) ?_))) (by decide +kernel) (by decide +kernel)) evs_nil rfl) rfl (by kernel_rfl) (by decide +kernel)) (evs_cons (ev_name (by (repeat (first | exact lookup_hd | refine lookup_tl (by decide +kernel) ?_))) (by decide +kernel) (by decide +kernel)) evs_nil rfl) rfl) rfl (by kernel_rfl) (by decide +kernel)) (fun _ => rfl)) (fun _ => ev_int) (fun _ => ev_int)) evs_nil rfl) rfl) rfl (by kernel_rfl) (by decide +kernel))
  rw [if_neg (by rw [h]; decide)]
  refine run_step (step_set (ev_if_i (tr_bool (ev_call T.glob (fn_ne T.defs T.glob) (by omega) (evs_cons (ev_call T.glob (fn_b3 T hc) (by omega) (evs_cons (ev_name (by (repeat (first | exact lookup_hd | refine lookup_tl (by decide +kernel) ?_))) (by decide +kernel) (by decide +kernel)) evs_nil rfl) rfl (by kernel_rfl) (by decide +kernel)) (evs_cons (ev_call T.glob (fn_b3 T hd) (by omega) (evs_cons (ev_name (by (repeat (first | exact lookup_hd | refine lookup_tl (by decide +kernel) ?_))) (by decide +kernel) (by decide +kernel)) evs_nil rfl) rfl (by kernel_rfl) (by decide +kernel)) evs_nil rfl) rfl) rfl (by kernel_rfl) (by decide +kernel)) (fun _ => rfl)) (fun _ => ev_int) (fun _ => ev_int)) (slot_local (by kernel_rfl)) rfl) ?_
  refine run_ret (ev_call T.glob (fn_add T.defs T.glob) (by omega) (evs_cons (ev_call T.glob (fn_mul T.defs T.glob (mulok (by omega))) (by omega) (evs_cons ev_int (evs_cons (ev_call T.glob (fn_add T.defs T.glob) (by omega) (evs_cons (ev_name (by (repeat (first | exact lookup_hd | refine lookup_tl (by decide +kernel) ?_))) (by decide +kernel) (by decide +kernel)) (evs_cons (ev_name (by (repeat (first | exact lookup_hd | refine lookup_tl (by decide +kernel) ?_))) (by decide +kernel) (by decide +kernel)) evs_nil rfl) rfl) rfl (by kernel_rfl) (by decide +kernel)) evs_nil rfl) rfl) rfl (by kernel_rfl) (by decide +kernel))
    (evs_cons (ev_call T.glob (fn_rshift T.defs T.glob (by omega)) (by omega) (evs_cons (ev_call T.glob (fn_add T.defs T.glob) (by omega) (evs_cons (ev_call T.glob (fn_strcoll T.defs T.glob) (by omega) (evs_cons (ev_name (by (repeat (first | exact lookup_hd | refine lookup_tl (by decide +kernel) ?_))) (by decide +kernel) (by decide +kernel)) (evs_cons (ev_name (by (repeat (first | exact lookup_hd | refine lookup_tl (by decide +kernel) ?_))) (by decide +kernel) (by decide +kernel)) evs_nil rfl) rfl) rfl (by kernel_rfl) (by decide +kernel)) (evs_cons ev_int evs_nil rfl) rfl) rfl (by kernel_rfl) (by decide +kernel)) (evs_cons ev_int evs_nil rfl) rfl) rfl (by kernel_rfl) (by decide +kernel)) evs_nil rfl) rfl) rfl (by kernel_rfl) (by decide +kernel))
end
end Mine

namespace Mine
open PySem PySem.W PySem.Calls PyProof.Rows

noncomputable def iL (ns : List Int) : List CV := ns.map .int
theorem iL_at {ns : List Int} {i : Nat} (h : i < ns.length) : (iL ns)[i]? = some (.int (ns.getD i 0)) := by
  unfold iL
  rw [List.getElem?_map, List.getElem?_eq_getElem h]
  simp [h]

section
variable {prog : Program} {w : World} {hB : Heap} {k : Nat} {env : Env} {σ : Sig} {mg mb : Str → Option Value}

theorem item_tupI {ns : List Int} {i : Nat} (h : i < ns.length) (h2 : i < 1000) : ItemOk prog w hB (.tup (iL ns)) (.int i) (.int (ns.getD i 0)) :=
  item_tup (by omega) (by omega) (by rw [Int.toNat_natCast]; exact iL_at h)
theorem evx_cmp_ {l r : Expr} {op : CmpOp} {pos : Pos} {c d q : CV} (h1 : Ev prog w hB k env σ l c) (h2 : Ev prog w hB k env σ r d) (hm : behindInMarks op r = false) (o : OpX prog w hB (compareOp op) c d q) : Ev prog w hB k env σ (.Compare l [op] [r] pos) q := evx_cmp o h1 h2 hm
theorem trx_cmp_ {l r : Expr} {op : CmpOp} {pos : Pos} {c d : CV} {b : Bool} (h1 : Ev prog w hB k env σ l c) (h2 : Ev prog w hB k env σ r d) (hm : behindInMarks op r = false) (o : OpX prog w hB (compareOp op) c d (.bool b)) : Tr prog w hB k env σ (.Compare l [op] [r] pos) b := trx_cmp o h1 h2 hm

noncomputable def constInts : List Expr → Option (List Int)
  | [] => some []
  | .Constant (.int i) _ _ :: r => (constInts r).map (i :: ·)
  | _ => none
theorem evs_ints : ∀ {es : List Expr} {ns : List Int}, constInts es = some ns → Evs prog w hB k env σ es (iL ns)
  | [], ns, h => by cases h; exact evs_nil
  | e :: r, ns, h => by
    cases e with
    | Constant c n p =>
      cases c with
      | int i =>
        obtain ⟨ms, h1, h2⟩ := Option.map_eq_some_iff.mp (show (constInts r).map (i :: ·) = some ns from h)
        subst h2
        exact evs_cons ev_int (evs_ints h1) rfl
      | _ => cases h
    | _ => cases h
theorem ev_ints {es : List Expr} {n : Nat} {p : Pos} (ns : List Int) (h : constInts es = some ns) (hn : ns.length ≤ 1000) : Ev prog w hB k env σ (.Tuple es n p) (.tup (iL ns)) :=
  ev_tup (evs_ints h) (by unfold iL; rw [List.length_map]; exact Nat.le_trans hn (by decide))
noncomputable def famL : List Int := [0, 1, 0, 1, 2, 3, 4, 5]
noncomputable def letL : List Int := [0, 1, 0, 1, 1, 0, 1, 0]
noncomputable def isin23 (x : Int) : Bool := (toPys [.int 2, .int 3]).any fun y => PyData.eqv y (toPy (.int x))
noncomputable def kindS (x y : Nat) : Int := if (x : Int) == y then (if isin23 x then 0 else 1) else 2 * (if famL.getD x 0 == famL.getD y 0 then 1 else if letL.getD x 0 == letL.getD y 0 then 2 else 3) + (if decide ((y : Int) < x) then 1 else 0)
theorem fn_kind (T : Top prog w hB mg mb) {x y : Nat} (hx : x < 8) (hy : y < 8) : Fn prog w hB mg 2 "_law_kind" [.int x, .int y] (.int (kindS x y)) := by
  refine fn2 T.defs T.glob (d := defAt 19) (x := "x") (y := "y") (by simp [defs]) (fun _ _ _ _ _ => rfl) (by decide +kernel) (by decide +kernel) rfl rfl rfl fun L a cd => ?_
  have hs : kindS x y = if (x : Int) == y then (if isin23 x then 0 else 1) else 2 * (if famL.getD x 0 == famL.getD y 0 then 1 else if letL.getD x 0 == letL.getD y 0 then 2 else 3) + (if decide ((y : Int) < x) then 1 else 0) := rfl
  rw [hs]
  refine run_if (tr_cmp op_eq (ev_name (by (repeat (first | exact lookup_hd | refine lookup_tl (by decide +kernel) ?_))) (by decide +kernel) (by decide +kernel)) (ev_name (by (repeat (first | exact lookup_hd | refine lookup_tl (by decide +kernel) ?_))) (by decide +kernel) (by decide +kernel)) (by rfl)) (fun h => ?_) (fun h => ?_)
  · rw [if_pos h]
    exact run_ret (ev_if_i (trx_cmp_ (ev_name (by (repeat (first | exact lookup_hd | refine lookup_tl (by decide +kernel) ?_))) (by decide +kernel) (by decide +kernel)) (ev_tup (evs_cons ev_int (evs_cons ev_int evs_nil (by rfl)) (by rfl)) (by decide +kernel)) rfl (op_inT rfl rfl rfl rfl (by decide +kernel))) (fun _ => ev_int) (fun _ => ev_int))
  rw [if_neg (by rw [h]; decide)]
  refine run_step (σ' := [("letters", .tup (iL letL)), ("families", .tup (iL famL)), ("x", .int x), ("y", .int y)]) (step_tup (cs := [.tup (iL famL), .tup (iL letL)]) (ev_tup (evs_cons (ev_ints famL (by kernel_rfl) (by decide +kernel)) (evs_cons (ev_ints letL (by kernel_rfl) (by decide +kernel)) evs_nil (by rfl)) (by rfl)) (by decide +kernel))
    (binds_cons (binds_cons binds_nil (slot_local (by kernel_rfl))) (slot_local (by kernel_rfl))) (by kernel_rfl) (by kernel_rfl) (by kernel_rfl) (by kernel_rfl)) ?_
  refine run_step (step_set (ev_if_i (tr_cmp op_eq (ev_sub (item_tupI (ns := famL) hx (by omega)) (ev_name (by (repeat (first | exact lookup_hd | refine lookup_tl (by decide +kernel) ?_))) (by decide +kernel) (by decide +kernel)) (ev_name (by (repeat (first | exact lookup_hd | refine lookup_tl (by decide +kernel) ?_))) (by decide +kernel) (by decide +kernel)) (fun _ _ => ⟨_, rfl⟩)) (ev_sub (item_tupI (ns := famL) hy (by omega)) (ev_name (by (repeat (first | exact lookup_hd | refine lookup_tl (by decide +kernel) ?_))) (by decide +kernel) (by decide +kernel)) (ev_name (by (repeat (first | exact lookup_hd | refine lookup_tl (by decide +kernel) ?_))) (by decide +kernel) (by decide +kernel)) (fun _ _ => ⟨_, rfl⟩)) (by rfl)) (fun _ => ev_int) (fun _ => ev_if_i (tr_cmp op_eq (ev_sub (item_tupI (ns := letL) hx (by omega)) (ev_name (by (repeat (first | exact lookup_hd | refine lookup_tl (by decide +kernel) ?_))) (by decide +kernel) (by decide +kernel)) (ev_name (by (repeat (first | exact lookup_hd | refine lookup_tl (by decide +kernel) ?_))) (by decide +kernel) (by decide +kernel)) (fun _ _ => ⟨_, rfl⟩)) (ev_sub (item_tupI (ns := letL) hy (by omega)) (ev_name (by (repeat (first | exact lookup_hd | refine lookup_tl (by decide +kernel) ?_))) (by decide +kernel) (by decide +kernel)) (ev_name (by (repeat (first | exact lookup_hd | refine lookup_tl (by decide +kernel) ?_))) (by decide +kernel) (by decide +kernel)) (fun _ _ => ⟨_, rfl⟩)) (by rfl)) (fun _ => ev_int) (fun _ => ev_int))) (slot_local (by kernel_rfl)) (by rfl)) ?_
  exact run_ret (ev_bin op_add (ev_bin (op_mul (mulok (by omega))) ev_int (ev_name (by (repeat (first | exact lookup_hd | refine lookup_tl (by decide +kernel) ?_))) (by decide +kernel) (by decide +kernel))) (ev_if_i (tr_cmp op_gt (ev_name (by (repeat (first | exact lookup_hd | refine lookup_tl (by decide +kernel) ?_))) (by decide +kernel) (by decide +kernel)) (ev_name (by (repeat (first | exact lookup_hd | refine lookup_tl (by decide +kernel) ?_))) (by decide +kernel) (by decide +kernel)) (by rfl)) (fun _ => ev_int) (fun _ => ev_int)))

-- fewer names
noncomputable def Sub (σ τ : Sig) : Prop := ∀ x c, σ.lookup x = some c → τ.lookup x = some c
theorem sub_refl {σ : Sig} : Sub σ σ := fun _ _ h => h
theorem sub_cons {σ τ : Sig} {y : Str} {d : CV} (h : Sub σ τ) : Sub ((y, d) :: σ) ((y, d) :: τ) := fun x c e => by
  rw [List.lookup_cons] at e ⊢
  cases q : x == y with
  | true => rw [q] at e; exact e
  | false => rw [q] at e; exact h x c e
theorem sub_skip {σ τ : Sig} {y : Str} {d : CV} (hy : σ.lookup y = none) (h : Sub σ τ) : Sub σ ((y, d) :: τ) := fun x c e => by
  rw [List.lookup_cons]
  cases q : x == y with
  | true => rw [beq_iff_eq.mp q, hy] at e; cases e
  | false => exact h x c e
theorem sub_nil {τ : Sig} : Sub [] τ := fun _ _ e => by cases e
theorem ev_tint {e : Expr} {i : Int} {p : Nat → Prop} (h : Ev prog w hB k env σ e (.intT i p)) : Ev prog w hB k env σ e (.int i) := by
  refine ⟨?_⟩
  intro X A E s hr ok
  exact wpAny_mono (h.run X A E s hr ok) (fun v s' q => ⟨let ⟨t, e, _⟩ := q.1; ⟨t, e⟩, q.2⟩) fun _ _ x => x

theorem rangeC_length {a : Int} {n : Nat} : (rangeC a n).length = n := by simp [rangeC]

noncomputable def cnt1 (ns : List Int) : Int := (ns.countP (· == 1) : Nat)
theorem fn_count (T : Top prog w hB mg mb) {ns : List Int} (u : Nat) (hns : ∀ n ∈ ns, smallInt n = true) :
    Fn prog w hB mg 1 "countOf" [.list (ns.map fun n => .intT n fun t => 0 < t ∧ t < u), .intT 1 fun t => u ≤ t] (.int (cnt1 ns)) := by
  refine fn2 T.defs T.glob (d := defAt 12) (x := "a") (y := "b") (by simp [defs]) (fun _ _ _ _ _ => rfl) (by decide +kernel) (by decide +kernel) rfl rfl rfl fun L a cd => ?_
  refine run_step (step_set ev_int (slot_local (by kernel_rfl)) (by rfl)) ?_
  refine run_step (step_for (src_list (ev_name (by (repeat (first | exact lookup_hd | refine lookup_tl (by decide +kernel) ?_))) (by decide +kernel) (by decide +kernel))) (fun i => [("count", .int (cnt1 (ns.take i))), ("a", .list (ns.map fun n => .intT n fun t => 0 < t ∧ t < u)), ("b", .intT 1 fun t => u ≤ t)]) (fun _ _ h => h) (fun i c hc => ?_) (fun _ => (by rfl))) (run_conv (run_ret (ev_name (by (repeat (first | exact lookup_hd | refine lookup_tl (by decide +kernel) ?_))) (by decide +kernel) (by decide +kernel))) (by rw [List.length_map, List.take_length]))
  rw [List.getElem?_map] at hc
  cases hn : ns[i]? with
  | none => rw [hn] at hc; cases hc
  | some n =>
    rw [hn] at hc
    cases hc
    have ht : cnt1 (ns.take (i + 1)) = cnt1 (ns.take i) + if n == 1 then 1 else 0 := by
      unfold cnt1
      rw [List.take_add_one, hn, List.countP_append]
      simp [List.countP_cons]
      split <;> simp
    refine ⟨_, bind_name (slot_local (by kernel_rfl)), ?_⟩
    refine steps_cons (step_if (tr_or (tr_cmp (op_is (hns n (List.mem_of_getElem? hn))) (ev_name (by (repeat (first | exact lookup_hd | refine lookup_tl (by decide +kernel) ?_))) (by decide +kernel) (by decide +kernel)) (ev_name (by (repeat (first | exact lookup_hd | refine lookup_tl (by decide +kernel) ?_))) (by decide +kernel) (by decide +kernel)) (by rfl)) (fun _ => tr_cmp op_eq (ev_tint (ev_name (by (repeat (first | exact lookup_hd | refine lookup_tl (by decide +kernel) ?_))) (by decide +kernel) (by decide +kernel))) (ev_tint (ev_name (by (repeat (first | exact lookup_hd | refine lookup_tl (by decide +kernel) ?_))) (by decide +kernel) (by decide +kernel))) (by rfl))) (fun h => ?_) (fun h => ?_)) steps_nil
    · have h1 : (n == 1) = true := by simpa using h
      rw [ht, h1, if_pos rfl]
      exact steps_sub (steps_cons (step_aug (by exact lookup_tl (by decide +kernel) lookup_hd) (by decide +kernel) ev_int op_iadd (slot_local (by kernel_rfl))) steps_nil) (sub_cons (sub_skip (by kernel_rfl) (sub_skip (by kernel_rfl) sub_refl)))
    · have h1 : (n == 1) = false := by simpa using h
      rw [ht, h1, if_neg (by decide), Int.add_zero]
      exact steps_sub steps_nil (sub_skip (by kernel_rfl) sub_refl)
end
end Mine

namespace Mine
open PySem PySem.W PySem.Calls PyProof.Rows

section
variable {prog : Program} {w : World} {hB : Heap} {k : Nat} {env : Env} {σ : Sig} {mg mb : Str → Option Value}

noncomputable def natsC (ns : List Nat) : List CV := ns.map fun (n : Nat) => CV.int n
theorem src_conv {e tgt : Expr} {c d : List CV} (h : Src prog w hB k env σ e tgt c) (e1 : c = d) : Src prog w hB k env σ e tgt d := e1 ▸ h
theorem src_rangeN {p pos : Pos} {e tgt : Expr} {n : Nat} (T : Top prog w hB mg mb) (h : Ev prog w hB k env σ e (.int n)) (hn : n ≤ 1000) (hs : isStarred e = false) (hx : env.kindOf "range" = some .globalImplicit) :
    Src prog w hB k env σ (.Call (.Name "range" p) [e] [] pos) tgt (natsC (List.range n)) := by
  refine src_conv (src_range1 T.glob (T.free _ (by decide +kernel)) h (by omega) hs hx) ?_
  unfold rangeC natsC
  simp
theorem src_rangeN2 {p pos : Pos} {e f tgt : Expr} {m n : Nat} (T : Top prog w hB mg mb) (h : Ev prog w hB k env σ e (.int m)) (h2 : Ev prog w hB k env σ f (.int n)) (hm : m ≤ 1000) (hn : n ≤ 1000) (hs : isStarred e = false) (hs2 : isStarred f = false) (hx : env.kindOf "range" = some .globalImplicit) :
    Src prog w hB k env σ (.Call (.Name "range" p) [e, f] [] pos) tgt (natsC ((List.range (n - m)).map (m + ·))) := by
  refine src_conv (src_range2 T.glob (T.free _ (by decide +kernel)) h h2 (by omega) (by omega) hs hs2 hx) ?_
  unfold rangeC natsC
  have : ((n : Int) - m).toNat = n - m := by omega
  rw [this, List.map_map]
  refine List.map_congr_left fun i _ => ?_
  simp

/-- the names that a comprehension takes with it -/
noncomputable def Cap (σ σc : Sig) (names : List (Str × NameKind)) : Prop := ∀ x c, σc.lookup x = some c → σ.lookup x = some c ∧ (x, NameKind.free) ∈ names
theorem cap_nil {names : List (Str × NameKind)} : Cap σ [] names := fun _ _ e => by cases e
theorem cap_cons {σc : Sig} {names : List (Str × NameKind)} {y : Str} {d : CV} (h1 : σ.lookup y = some d) (h2 : (names.any fun p => p.1 == y && p.2 == .free) = true) (h : Cap σ σc names) : Cap σ ((y, d) :: σc) names := fun x c e => by
  rw [List.lookup_cons] at e
  cases q : x == y with
  | true =>
    rw [q] at e; cases e
    have := beq_iff_eq.mp q; subst this
    obtain ⟨p, hp, hq⟩ := List.any_eq_true.mp h2
    obtain ⟨a, b⟩ := p
    simp only [Bool.and_eq_true, beq_iff_eq] at hq
    obtain ⟨rfl, hb⟩ := hq
    exact ⟨h1, by rw [show b = NameKind.free from hb] at hp; exact hp⟩
  | false => rw [q] at e; exact h x c e
theorem clo_miss {env : Env} {x : Str} : ∀ (names : List (Str × NameKind)) (acc : List (Str × Addr)), (x, NameKind.free) ∉ names → (clo env names acc).lookup x = acc.lookup x
  | [], _, _ => rfl
  | (n, k) :: r, acc, h => by
    rw [List.mem_cons, not_or] at h
    unfold clo
    by_cases hk : (k == .free) = true
    · rw [if_pos hk, clo_miss r _ h.2, List.lookup_cons]
      have hk' : k = .free := by simpa using hk
      cases e : x == n with
      | true => exact absurd (by rw [beq_iff_eq.mp e, hk']) h.1
      | false => rfl
    · rw [if_neg hk, clo_miss r _ h.2]
theorem slot_cellC {scope : Scope} {env : Env} {C : Addr} {x : Str} (h : scope.names.lookup x = some .cell) (hnf : (scope.names.any fun p => p.1 == x && p.2 == .free) = false) : ∃ b, Slot (cEnv scope env C) x b := by
  have hs := PySem.W.cellsFrom_some (x := x) scope.names (C + 1) (clo env scope.names []) (.inl h)
  obtain ⟨b, e⟩ := Option.isSome_iff_exists.mp hs
  refine ⟨b, .inr ⟨?_, e, ?_⟩⟩
  · show (relabel scope env).names.lookup x = _
    rw [relabel_lookup, h]; simp
  · rcases cellsFrom_ge scope.names (C + 1) _ e with q | q
    · exact q
    · rw [clo_miss _ _ (fun hm => ?_)] at q
      · cases q
      · have := List.any_eq_false.mp hnf _ hm
        simp at this

-- matrices of noughts and ones
abbrev Mat := List (List Int)
noncomputable def rowC (r : List Int) : CV := .list (r.map .tint)
noncomputable def matC (W : Mat) : CV := .list (W.map rowC)
noncomputable def Mat.at (W : Mat) (i j : Nat) : Int := (W.getD i []).getD j 0
structure MatOk (W : Mat) : Prop where
  len : W.length = 3
  row : ∀ i, i < 3 → (W.getD i []).length = 3
  bit : ∀ i j, i < 3 → j < 3 → smallInt (W.at i j) = true
theorem item_mat {W : Mat} (hW : MatOk W) {i : Nat} (hi : i < 3) : ItemOk prog w hB (matC W) (.int i) (rowC (W.getD i [])) := by
  refine item_list (by omega) (by omega) ?_
  rw [Int.toNat_natCast, List.getElem?_map, List.getElem?_eq_getElem (by rw [hW.len]; exact hi)]
  have : i < W.length := by rw [hW.len]; exact hi
  simp [this]
theorem item_row {W : Mat} (hW : MatOk W) {i j : Nat} (hi : i < 3) (hj : j < 3) : ItemOk prog w hB (rowC (W.getD i [])) (.int j) (.tint (W.at i j)) := by
  refine item_list (by omega) (by omega) ?_
  have h : j < (W.getD i []).length := by rw [hW.row i hi]; exact hj
  rw [Int.toNat_natCast, List.getElem?_map, List.getElem?_eq_getElem h]
  unfold Mat.at
  have e2 : (W.getD i []).getD j 0 = (W.getD i [])[j] := by rw [List.getD_eq_getElem?_getD (l := W.getD i []), List.getElem?_eq_getElem h]; rfl
  rw [e2]; rfl
theorem item_nats {ns : List Nat} {i : Nat} (h : i < ns.length) (hn : ns.length ≤ 1000) : ItemOk prog w hB (.list (natsC ns)) (.int i) (.int (ns.getD i 0 : Nat)) := by
  refine item_list (by omega) (by omega) ?_
  unfold natsC
  rw [Int.toNat_natCast, List.getElem?_map, List.getElem?_eq_getElem h]
  simp [h]
theorem getD_lt {ns : List Nat} {i b : Nat} (h : ∀ x ∈ ns, x < b) (hb : 0 < b) : ns.getD i 0 < b := by
  rw [List.getD_eq_getElem?_getD]
  cases e : ns[i]? with
  | none => exact hb
  | some x => exact h x (List.mem_of_getElem? e)

theorem flat_len {α β : Type} {g : α → List β} {b : Nat} : ∀ {as : List α}, (∀ a ∈ as, (g a).length ≤ b) → (as.flatMap g).length ≤ as.length * b
  | [], _ => by simp
  | a :: r, h => by
    have h1 := h a List.mem_cons_self
    have h2 := flat_len (as := r) (g := g) (b := b) fun x hx => h x (List.mem_cons_of_mem _ hx)
    rw [List.flatMap_cons, List.length_append, List.length_cons, Nat.add_mul]
    omega
theorem size_ok {n : Nat} (h : n ≤ 1000000) : n ≤ sizeLine := Nat.le_trans h (by decide +kernel)
theorem ev_lenN {p pos : Pos} {e : Expr} {ns : List Nat} (T : Top prog w hB mg mb) (h : Ev prog w hB k env σ e (.list (natsC ns))) (hn : ns.length ≤ 1000) (hk : 1 ≤ k) (hs : isStarred e = false) (hx : env.kindOf "len" = some .globalImplicit) :
    Ev prog w hB k env σ (.Call (.Name "len" p) [e] [] pos) (.int (ns.length : Nat)) := by
  have hl : (natsC ns).length = ns.length := by simp [natsC]
  refine ev_conv (ev_bi (fv := .builtin "len") T.glob (bi_len (xs := natsC ns) (by omega)) (T.free _ (by decide +kernel)) (by kernel_rfl) rfl (evs_cons h evs_nil hs) hk (by simp [hs]) hx (by decide +kernel) (by decide +kernel)) (by rw [hl])
/-- wrong[row[i]][row[j]] -/
theorem ev_wrong {a b c : Expr} {p q : Pos} {W : Mat} (hW : MatOk W) {i j : Nat} (hi : i < 3) (hj : j < 3) (hw : Ev prog w hB k env σ a (matC W)) (h1 : Ev prog w hB k env σ b (.int i)) (h2 : Ev prog w hB k env σ c (.int j))
    (s1 : ∀ o i, ∃ vs, subscripted b false o i = operate vs (getItem o i)) (s2 : ∀ o i, ∃ vs, subscripted c false o i = operate vs (getItem o i)) : Ev prog w hB k env σ (.Subscript (.Subscript a b p) c q) (.tint (W.at i j)) :=
  ev_sub (item_row hW hi hj) (ev_sub (item_mat hW hi) hw h1 s1) h2 s2

theorem tint_at {X h} {u : Nat} : ∀ {ns : List Int} {vs : List Value}, Rels X h u (ns.map .tint) vs → ∀ n, Rels X h n (ns.map fun i => CV.intT i fun t => 0 < t ∧ t < u) vs
  | [], _, r, _ => r
  | _ :: _, _, ⟨v, vs', e, ⟨t, e2, h1, h2⟩, rs⟩, n => ⟨v, vs', e, ⟨t, e2, h1, h2⟩, tint_at rs n⟩
theorem ev_count {p pos p2 : Pos} {n2 : Nat} {e : Expr} {ns : List Int} (T : Top prog w hB mg mb) (h : Ev prog w hB k env σ e (.list (ns.map .tint))) (hns : ∀ n ∈ ns, smallInt n = true) (hk : 1 ≤ k) (hs : isStarred e = false) (hx : env.kindOf "countOf" = some .globalImplicit) :
    Ev prog w hB k env σ (.Call (.Name "countOf" p) [e, .Constant (.int 1) n2 p2] [] pos) (.int (cnt1 ns)) := by
  refine ⟨?_⟩
  intro X A E s hr ok
  have hm0 : ∃ a o fd, mg "countOf" = some (.ref a) ∧ hB.get? a = some o ∧ o.data = .func fd := by
    obtain ⟨a, o, fd, h1, h2, h3, _⟩ := fn_count (prog := prog) (w := w) T (ns := []) 0 (by simp)
    exact ⟨a, o, fd, h1, h2, h3⟩
  obtain ⟨a, o, fd, hm, ho, hdt⟩ := hm0
  refine wpAny_Call_Name_kw (ev_global T.glob ok hm hx (by decide +kernel) ?_)
  refine callWith_function (o := o) (fd := fd) (evalArgs_some hs ?_)
  rw [starEach_cons hs]
  show wpAny _ _ (spliced ((false, eval e env) :: backTo pos (starEach [.Constant (.int 1) n2 p2] env))) _ _ s
  refine spliced_cons (wpAny_mono (h.run X A E s hr ok) (fun v s₁ q => ?_) fun _ _ x => x)
  rw [starEach_cons rfl]
  show wpAny _ _ (spliced ((false, eval (.Constant (.int 1) n2 p2) env) :: [])) _ _ s₁
  refine spliced_cons (wpAny_Constant_int (spliced_nil ?_))
  obtain ⟨r, kp⟩ := q
  have k2 : Kp s₁ { s₁ with toks := s₁.toks + 1 } := Kp.toksOnly (Nat.le_succ _)
  have kS := kp.trans k2
  have b1 := ok.base.kp0 kS
  refine ⟨⟨b1.keep _ _ ho, hdt⟩, ?_⟩
  obtain ⟨a', o', fd', hm', ho', hdt', spec⟩ := fn_count (prog := prog) (w := w) T (ns := ns) s₁.toks hns
  rw [hm] at hm'; cases hm'
  obtain ⟨l, its, rfl, hl, hpl, rs⟩ := r
  refine wpAny_mono (spec X A E _ [.ref l, .int 1 s₁.toks] (hr.le hk) b1 (ok.xok.kp kS) ⟨_, _, rfl, ⟨l, its, rfl, hl, hpl, tint_at rs _⟩, _, _, rfl, ⟨_, rfl, Nat.le_refl _⟩, rfl⟩) (fun v s₂ q2 => ⟨q2.1, kS.trans q2.2⟩) fun _ _ x => x

noncomputable def pairsL (W : Mat) (row : List Nat) : List Int := (List.range row.length).flatMap fun j => (List.range j).map fun i => W.at (row.getD i 0) (row.getD j 0)
noncomputable def pairsS (W : Mat) (row : List Nat) : Int := cnt1 (pairsL W row)
theorem fn_pairs (T : Top prog w hB mg mb) {W : Mat} (hW : MatOk W) {row : List Nat} (hr : ∀ x ∈ row, x < 3) (hl : row.length ≤ 100) : Fn prog w hB mg 2 "_law_pairs" [matC W, .list (natsC row)] (.int (pairsS W row)) := by
  refine fn2 T.defs T.glob (d := defAt 20) (x := "wrong") (y := "row") (by simp [defs]) (fun _ _ _ _ _ => rfl) (by decide +kernel) (by decide +kernel) rfl rfl rfl fun L a cd => ?_
  have hsm : ∀ n ∈ pairsL W row, smallInt n = true := by
    intro n hn
    obtain ⟨j, _, hn⟩ := List.mem_flatMap.mp hn
    obtain ⟨i, _, rfl⟩ := List.mem_map.mp hn
    exact hW.bit _ _ (getD_lt hr (by omega)) (getD_lt hr (by omega))
  refine run_ret (ev_count T ?_ hsm (by omega) rfl (by kernel_rfl))
  have e : (pairsL W row).map CV.tint = (List.range row.length).flatMap fun j => (List.range j).flatMap fun i => [CV.tint (W.at (row.getD i 0) (row.getD j 0))] := by
    unfold pairsL
    rw [List.map_flatMap]
    congr 1
    funext j
    rw [List.map_map, List.map_eq_flatMap]; rfl
  rw [e]
  refine ev_comp (List.range row.length) (fun (j : Nat) => CV.int j) _ [("wrong", matC W), ("row", .list (natsC row))] (by kernel_rfl) (cap_cons (by (repeat (first | exact lookup_hd | refine lookup_tl (by decide +kernel) ?_))) (by kernel_rfl) (cap_cons (by (repeat (first | exact lookup_hd | refine lookup_tl (by decide +kernel) ?_))) (by kernel_rfl) cap_nil)) ?_ (fun C j hj => ?_) ?_ (fun _ => rfl)
  · exact src_rangeN T (ev_lenN T (ev_name (by (repeat (first | exact lookup_hd | refine lookup_tl (by decide +kernel) ?_))) (by decide +kernel) (by decide +kernel)) (by omega) (by omega) rfl (by kernel_rfl)) (by omega) rfl (by kernel_rfl)
  · have hj' : j < row.length := List.mem_range.mp hj
    refine ⟨_, true, bind_name (slot_local (by kernel_rfl)), sub_skip (by kernel_rfl) sub_refl, tests_nil, fun _ => ?_, fun h => nomatch h⟩
    refine emit_next (List.range j) (fun (i : Nat) => CV.int i) _ rfl (src_rangeN T (ev_name (by (repeat (first | exact lookup_hd | refine lookup_tl (by decide +kernel) ?_))) (by decide +kernel) (by decide +kernel)) (by omega) rfl (by kernel_rfl)) (fun i hi => ?_) (fun _ => rfl)
    have hi' : i < j := List.mem_range.mp hi
    refine ⟨_, true, bind_name (slot_local (by kernel_rfl)), sub_skip (by kernel_rfl) sub_refl, tests_nil, fun _ => emit_last rfl ?_, fun h => nomatch h⟩
    exact ev_wrong hW (getD_lt hr (by omega)) (getD_lt hr (by omega)) (ev_name (by (repeat (first | exact lookup_hd | refine lookup_tl (by decide +kernel) ?_))) (by decide +kernel) (by decide +kernel)) (ev_sub (item_nats (by omega) (by omega)) (ev_name (by (repeat (first | exact lookup_hd | refine lookup_tl (by decide +kernel) ?_))) (by decide +kernel) (by decide +kernel)) (ev_name (by (repeat (first | exact lookup_hd | refine lookup_tl (by decide +kernel) ?_))) (by decide +kernel) (by decide +kernel)) (fun _ _ => ⟨_, rfl⟩)) (ev_sub (item_nats hj' (by omega)) (ev_name (by (repeat (first | exact lookup_hd | refine lookup_tl (by decide +kernel) ?_))) (by decide +kernel) (by decide +kernel)) (ev_name (by (repeat (first | exact lookup_hd | refine lookup_tl (by decide +kernel) ?_))) (by decide +kernel) (by decide +kernel)) (fun _ _ => ⟨_, rfl⟩)) (fun _ _ => ⟨_, rfl⟩) (fun _ _ => ⟨_, rfl⟩)
  · refine size_ok (Nat.le_trans (flat_len (b := 100) fun j hj => Nat.le_trans (flat_len (b := 1) fun i hi => Nat.le_refl _) ?_) ?_)
    · have := List.mem_range.mp hj; rw [List.length_range]; omega
    · rw [List.length_range]; omega
end
end Mine

namespace Mine
open PySem PySem.W PySem.Calls PyProof.Rows

section
variable {prog : Program} {w : World} {hB : Heap} {k : Nat} {env : Env} {σ : Sig} {mg mb : Str → Option Value}

noncomputable def stepPs (row : List Nat) : List Nat := (List.range (row.length - 1)).map (1 + ·)
noncomputable def stepT (W : Mat) (row : List Nat) (p : Nat) : Int := p * W.at (row.getD (p - 1) 0) (row.getD p 0)
noncomputable def stepsS (W : Mat) (row : List Nat) : Int := ((stepPs row).map (stepT W row)).sum
theorem sum_take {α : Type} (f : α → Int) {l : List α} {i : Nat} {x : α} (h : l[i]? = some x) : ((l.take (i + 1)).map f).sum = ((l.take i).map f).sum + f x := by
  rw [List.take_add_one, h, List.map_append, List.sum_append]; simp
theorem fn_steps (T : Top prog w hB mg mb) {W : Mat} (hW : MatOk W) {row : List Nat} (hr : ∀ x ∈ row, x < 3) (hl : row.length ≤ 100) : Fn prog w hB mg 2 "_law_steps" [matC W, .list (natsC row)] (.int (stepsS W row)) := by
  refine fn2 T.defs T.glob (d := defAt 21) (x := "wrong") (y := "row") (by simp [defs]) (fun _ _ _ _ _ => rfl) (by decide +kernel) (by decide +kernel) rfl rfl rfl fun L a cd => ?_
  refine run_step (step_set ev_int (slot_local (by kernel_rfl)) rfl) ?_
  refine run_step (step_for (cs := natsC (stepPs row)) ?_ (fun i => [("total", .int (((stepPs row).take i).map (stepT W row)).sum), ("wrong", matC W), ("row", .list (natsC row))]) (fun _ _ h => h) (fun i c hc => ?_) (fun _ => rfl)) (run_conv (run_ret (ev_name (by (repeat (first | exact lookup_hd | refine lookup_tl (by decide +kernel) ?_))) (by decide +kernel) (by decide +kernel))) (by unfold natsC; rw [List.length_map, List.take_length]; rfl))
  · exact src_rangeN2 (m := 1) T ev_int (ev_lenN T (ev_name (by (repeat (first | exact lookup_hd | refine lookup_tl (by decide +kernel) ?_))) (by decide +kernel) (by decide +kernel)) (by omega) (by omega) rfl (by kernel_rfl)) (by omega) (by omega) rfl rfl (by kernel_rfl)
  unfold natsC at hc
  rw [List.getElem?_map] at hc
  cases hn : (stepPs row)[i]? with
  | none => rw [hn] at hc; cases hc
  | some p =>
    rw [hn] at hc
    cases hc
    have hp : 1 ≤ p ∧ p < row.length := by
      have := List.mem_of_getElem? hn
      unfold stepPs at this
      obtain ⟨q, hq, rfl⟩ := List.mem_map.mp this
      have := List.mem_range.mp hq
      omega
    refine ⟨_, bind_name (slot_local (by kernel_rfl)), ?_⟩
    rw [sum_take _ hn]
    refine steps_sub (steps_cons (step_set (ev_call T.glob (fn_add T.defs T.glob) (by omega) (evs_cons (ev_name (by (repeat (first | exact lookup_hd | refine lookup_tl (by decide +kernel) ?_))) (by decide +kernel) (by decide +kernel)) (evs_cons (ev_call T.glob (fn_mul T.defs T.glob (i := p) (j := W.at (row.getD (p - 1) 0) (row.getD p 0)) (mulok (by omega))) (by omega) (evs_cons (ev_name (by (repeat (first | exact lookup_hd | refine lookup_tl (by decide +kernel) ?_))) (by decide +kernel) (by decide +kernel)) (evs_cons (ev_weak (ev_wrong hW (getD_lt hr (by omega)) (getD_lt hr (by omega)) (ev_name (by (repeat (first | exact lookup_hd | refine lookup_tl (by decide +kernel) ?_))) (by decide +kernel) (by decide +kernel))
      (ev_sub (item_nats (i := p - 1) (by omega) (by omega)) (ev_name (by (repeat (first | exact lookup_hd | refine lookup_tl (by decide +kernel) ?_))) (by decide +kernel) (by decide +kernel)) (ev_conv (ev_bin op_sub (ev_name (by (repeat (first | exact lookup_hd | refine lookup_tl (by decide +kernel) ?_))) (by decide +kernel) (by decide +kernel)) ev_int) (by congr 1; omega)) (fun _ _ => ⟨_, rfl⟩)) (ev_sub (item_nats (i := p) (by omega) (by omega)) (ev_name (by (repeat (first | exact lookup_hd | refine lookup_tl (by decide +kernel) ?_))) (by decide +kernel) (by decide +kernel)) (ev_name (by (repeat (first | exact lookup_hd | refine lookup_tl (by decide +kernel) ?_))) (by decide +kernel) (by decide +kernel)) (fun _ _ => ⟨_, rfl⟩)) (fun _ _ => ⟨_, rfl⟩) (fun _ _ => ⟨_, rfl⟩))) evs_nil (by rfl)) (by rfl)) (by rfl) (by kernel_rfl) (by decide +kernel)) evs_nil (by rfl)) (by rfl)) (by rfl) (by kernel_rfl) (by decide +kernel)) (slot_local (by kernel_rfl)) rfl) steps_nil)
      (sub_cons (sub_skip (by kernel_rfl) (sub_skip (by kernel_rfl) sub_refl)))

-- orders
noncomputable def rowsC (rs : List (List Nat)) : CV := .list (rs.map fun r => .list (natsC r))
noncomputable def ordG (counts : List Nat) (r : List Nat) (x : Nat) : List (List Nat) := if decide ((r.count x : Int) < (counts.getD x 0 : Nat)) then [r ++ [x]] else []
noncomputable def ordStep (counts : List Nat) (rs : List (List Nat)) : List (List Nat) := rs.flatMap fun r => (List.range 3).flatMap (ordG counts r)
noncomputable def ordIter (counts : List Nat) : Nat → List (List Nat)
  | 0 => [[]]
  | n + 1 => ordStep counts (ordIter counts n)
theorem ordStep_len (counts : List Nat) (rs : List (List Nat)) : (ordStep counts rs).length ≤ rs.length * 3 := by
  refine flat_len fun r _ => Nat.le_trans (flat_len (b := 1) fun x _ => ?_) (by simp)
  unfold ordG; split <;> simp
theorem ordIter_len (counts : List Nat) : ∀ n, (ordIter counts n).length ≤ 3 ^ n
  | 0 => by simp [ordIter]
  | n + 1 => by
    have h1 := ordStep_len counts (ordIter counts n)
    have h2 := ordIter_len counts n
    rw [ordIter, Nat.pow_succ]
    omega
theorem ordIter_row (counts : List Nat) : ∀ n, ∀ r ∈ ordIter counts n, r.length = n ∧ ∀ x ∈ r, x < 3
  | 0, r, h => by
    rw [List.mem_singleton.mp h]; simp
  | n + 1, r, h => by
    obtain ⟨q, hq, h⟩ := List.mem_flatMap.mp h
    obtain ⟨x, hx, h⟩ := List.mem_flatMap.mp h
    obtain ⟨h1, h2⟩ := ordIter_row counts n q hq
    unfold ordG at h
    split at h
    · rw [List.mem_singleton.mp h]
      refine ⟨by simp [h1], fun y hy => ?_⟩
      rcases List.mem_append.mp hy with g | g
      · exact h2 y g
      · rw [List.mem_singleton.mp g]; exact List.mem_range.mp hx
    · cases h
theorem count_cast (x : Nat) : ∀ ns : List Nat, (ns.map fun (n : Nat) => (n : Int)).count (x : Int) = ns.count x
  | [] => rfl
  | n :: r => by
    rw [List.map_cons, List.count_cons, List.count_cons, count_cast x r]
    congr 1
    by_cases h : n = x
    · subst h; simp
    · have : ¬ ((n : Int) = x) := by omega
      simp [h, this]
theorem natsC_ints (ns : List Nat) : natsC ns = (ns.map fun (n : Nat) => (n : Int)).map .int := by
  unfold natsC; rw [List.map_map]; rfl
theorem meth_countN {ns : List Nat} {i : Nat} : Meth prog w hB "count" (.list (natsC ns)) [.int i] (.int (ns.count i : Nat)) := by
  have := meth_count (prog := prog) (w := w) (hB := hB) (ns := ns.map fun (n : Nat) => (n : Int)) (i := i)
  rw [← natsC_ints, count_cast] at this
  exact this
theorem sum_cast : ∀ ns : List Nat, (ns.map fun (n : Nat) => (n : Int)).sum = (ns.sum : Nat)
  | [] => rfl
  | n :: r => by rw [List.map_cons, List.sum_cons, List.sum_cons, sum_cast r, Int.natCast_add]
theorem ev_sumN {p pos : Pos} {e : Expr} {ns : List Nat} (T : Top prog w hB mg mb) (h : Ev prog w hB k env σ e (.list (natsC ns))) (hk : 1 ≤ k) (hs : isStarred e = false) (hx : env.kindOf "sum" = some .globalImplicit) :
    Ev prog w hB k env σ (.Call (.Name "sum" p) [e] [] pos) (.int (ns.sum : Nat)) := by
  have e1 := sum_cast ns
  rw [natsC_ints] at h
  exact ev_conv (ev_bi (fv := .builtin "sum") T.glob bi_sum (T.free _ (by decide +kernel)) (by kernel_rfl) rfl (evs_cons h evs_nil hs) hk (by simp [hs]) hx (by decide +kernel) (by decide +kernel)) (by rw [e1])

theorem fn_orders (T : Top prog w hB mg mb) {counts : List Nat} (hc3 : counts.length = 3) (hs : counts.sum ≤ 6) : Fn prog w hB mg 2 "_law_orders" [.list (natsC counts)] (rowsC (ordIter counts counts.sum)) := by
  refine fn1 T.defs T.glob (d := defAt 22) (x := "counts") (by simp [defs]) (fun _ _ _ _ => rfl) (by decide +kernel) rfl rfl rfl fun L a cd => ?_
  refine run_step (step_set (ev_list (evs_cons (ev_list evs_nil (by decide +kernel)) evs_nil (by rfl)) (by decide +kernel)) (slot_local (by kernel_rfl)) rfl) ?_
  refine run_step (step_for (cs := natsC (List.range counts.sum)) ?_ (fun i => [("rows", rowsC (ordIter counts i)), ("counts", .list (natsC counts))]) (fun _ _ h => h) (fun i c hc => ?_) (fun _ => rfl)) (run_conv (run_ret (ev_name (by (repeat (first | exact lookup_hd | refine lookup_tl (by decide +kernel) ?_))) (by decide +kernel) (by decide +kernel))) (by unfold natsC; rw [List.length_map, List.length_range]))
  · exact src_rangeN T (ev_sumN T (ev_name (by (repeat (first | exact lookup_hd | refine lookup_tl (by decide +kernel) ?_))) (by decide +kernel) (by decide +kernel)) (by omega) rfl (by kernel_rfl)) (by omega) rfl (by kernel_rfl)
  have hi : i < counts.sum := by
    rcases Nat.lt_or_ge i counts.sum with h | h
    · exact h
    · unfold natsC at hc; rw [List.getElem?_eq_none (by simpa using h)] at hc; cases hc
  refine ⟨_, bind_name (slot_local (by kernel_rfl)), ?_⟩
  have hl3 : 3 ^ i ≤ 3 ^ 6 := Nat.pow_le_pow_right (by omega) (by omega)
  have hstep : rowsC (ordIter counts (i + 1)) = .list ((ordIter counts i).flatMap fun r => (List.range 3).flatMap fun x => if decide ((r.count x : Int) < (counts.getD x 0 : Nat)) then [.list (natsC (r ++ [x]))] else []) := by
    unfold rowsC
    rw [ordIter, ordStep, List.map_flatMap]
    congr 2
    funext r
    rw [List.map_flatMap]
    congr 1
    funext x
    unfold ordG
    split <;> rfl
  rw [hstep]
  refine steps_sub (steps_cons (step_setC (ordIter counts i) (fun r => .list (natsC r)) _ [("counts", .list (natsC counts))] (by kernel_rfl) (slot_local (by kernel_rfl)) (by kernel_rfl) (cap_cons (by (repeat (first | exact lookup_hd | refine lookup_tl (by decide +kernel) ?_))) (by kernel_rfl) cap_nil) (src_list (ev_name (by (repeat (first | exact lookup_hd | refine lookup_tl (by decide +kernel) ?_))) (by decide +kernel) (by decide +kernel))) (fun C r hr => ?_) ?_ (fun _ => rfl)) steps_nil) (sub_cons (sub_skip (by kernel_rfl) (sub_skip (by kernel_rfl) sub_refl)))
  · obtain ⟨hrl, hr3⟩ := ordIter_row counts i r hr
    refine ⟨_, true, bind_name (slot_local (by kernel_rfl)), sub_skip (by kernel_rfl) sub_refl, tests_nil, fun _ => ?_, fun h => nomatch h⟩
    refine emit_next (List.range 3) (fun (x : Nat) => CV.int x) _ rfl (src_rangeN (n := 3) T ev_int (by omega) rfl (by kernel_rfl)) (fun x hx => ?_) (fun _ => rfl)
    have hx3 : x < 3 := List.mem_range.mp hx
    refine ⟨_, decide ((r.count x : Int) < (counts.getD x 0 : Nat)), bind_name (slot_local (by kernel_rfl)), sub_skip (by kernel_rfl) sub_refl, tests_one ?_, fun hb => ?_, fun hb => ?_⟩
    · refine tr_cmp op_lt (ev_meth1 (ev_name (by (repeat (first | exact lookup_hd | refine lookup_tl (by decide +kernel) ?_))) (by decide +kernel) (by decide +kernel)) (ev_name (by (repeat (first | exact lookup_hd | refine lookup_tl (by decide +kernel) ?_))) (by decide +kernel) (by decide +kernel)) meth_countN (by omega) (by kernel_rfl) rfl rfl) (ev_sub (item_nats (by omega) (by omega)) (ev_name (by (repeat (first | exact lookup_hd | refine lookup_tl (by decide +kernel) ?_))) (by decide +kernel) (by decide +kernel)) (ev_name (by (repeat (first | exact lookup_hd | refine lookup_tl (by decide +kernel) ?_))) (by decide +kernel) (by decide +kernel)) (fun _ _ => ⟨_, rfl⟩)) rfl
    · rw [if_pos hb]
      refine emit_last rfl (ev_conv (evx_bin (op_addL (xs := natsC r) (ys := [.int x]) ?_) (ev_name (by (repeat (first | exact lookup_hd | refine lookup_tl (by decide +kernel) ?_))) (by decide +kernel) (by decide +kernel)) (ev_list (evs_cons (ev_name (by (repeat (first | exact lookup_hd | refine lookup_tl (by decide +kernel) ?_))) (by decide +kernel) (by decide +kernel)) evs_nil rfl) (size_ok (by simp)))) (by simp [natsC]))
      refine size_ok ?_
      simp [natsC]; omega
    · rw [if_neg (by rw [hb]; decide)]
  · refine size_ok (Nat.le_trans (flat_len (b := 3) fun r _ => Nat.le_trans (flat_len (b := 1) fun x _ => ?_) (by simp)) ?_)
    · split <;> simp
    · have := ordIter_len counts i
      omega
end
end Mine

namespace Mine
open PySem PySem.W PySem.Calls PyProof.Rows

theorem KpW.ofB {W s s'} (k : KpB W s s') : KpW W s s' := let ⟨h, t, e, a, _, c⟩ := k; ⟨h, t, e, a, c⟩

section
variable {prog : Program} {w : World} {hB : Heap} {k : Nat} {env : Env} {σ : Sig} {mg mb : Str → Option Value}

/-- a loop that keeps more than its names -/
theorem for_raw {X : List Addr} {A : Around} {E : Value → Shared → Prop} {s : Shared} {iter tgt : Expr} {body : List Stmt} {pos : Pos} {cs : List CV} (hr : Room A k) (ok : Ok hB X env σ s) (hsrc : Src prog w hB k env σ iter tgt cs)
    (Z : List Addr) (hZ : ∀ a ∈ Z, a ∈ X) (f : Nat → Sig) (hf : Sub (f 0) σ) (I : Nat → Shared → Prop) (hI0 : I 0 s) (hIk : ∀ i s1 s2 W, (∀ a ∈ W, ¬ Live s.heap a) → I i s1 → KpW W s1 s2 → I i s2)
    (turn : ∀ Y i c s' v E, (∀ a ∈ X, a ∈ Y) → cs[i]? = some c → Ok hB Y env (f i) s' → I i s' → Rel Y s'.heap s'.toks c v →
      wpAny (model prog w) A (assign tgt env v) (fun _ s1 => wpAny (model prog w) A (execs body env) (fun fl s2 => fl = .next ∧ Ok hB Y env (f (i + 1)) s2 ∧ I (i + 1) s2 ∧ KpB Z s' s2) E s1) E s')
    (hfold : ∀ x, foldedSetIterable iter env x = pure x) :
    wpAny (model prog w) A (exec (.For tgt iter body [] pos) env) (fun fl s' => fl = .next ∧ Ok hB X env (f cs.length) s' ∧ I cs.length s' ∧ KpB Z s s') E s := by
  refine wpAny_For (wpAny_mono (hsrc.run X A E s hr ok) (fun x s₁ h₁ => wpAny_mono h₁ (fun it s₂ q => ?_) fun _ _ x => x) fun _ _ x => x) hfold
  obtain ⟨W, J, L, hJ, kp, hW⟩ := q
  have ok2 : Ok hB (W ++ X) env (f 0) s₂ := (ok.widen kp hW).sub hf
  have hWX : ∀ a ∈ W, a ∉ X := fun a ha hx => (hW a ha).1 (ok.xok a hx).2
  have hWown : ∀ a ∈ ownOf env, a ∉ W := fun a ha hw => hWX a hw (ownOf_sub ok.own a ha)
  have hZX : ∀ a ∈ Z, a ∈ W ++ X := fun a ha => List.mem_append_right _ (hZ a ha)
  have hZW : ∀ a ∈ Z, a ∉ W := fun a ha hw => hWX a hw (hZ a ha)
  have hWf : ∀ a ∈ W, ¬ Live s.heap a := fun a h => (hW a h).1
  have hZl : ∀ a ∈ Z, Live s.heap a := fun a h => (ok.xok a (hZ a h)).2
  have hI2 : I 0 s₂ := hIk 0 s s₂ [] (by simp) hI0 (KpW.ofB kp)
  refine codeAny_forLoop_any (fun n s' => ∃ i, n = cs.length - i ∧ i ≤ cs.length ∧ Ok hB (W ++ X) env (f i) s' ∧ J (W ++ X) i s' ∧ I i s' ∧ KpB (Z ++ W) s₂ s') ?_ (cs.length) ⟨0, by simp, Nat.zero_le _, ok2, hJ, hI2, KpB.refl⟩
  rintro n s' ⟨i, rfl, hi, ok', hJ', hI', kp'⟩
  cases hc : cs[i]? with
  | none =>
    have hi' : i = cs.length := by
      rcases Nat.lt_or_ge i cs.length with h | h
      · rw [List.getElem?_eq_getElem h] at hc; cases hc
      · omega
    subst hi'
    refine wpAny_mono (L.done _ _ _ _ hr.handled hJ') (fun r s₃ q => ?_) fun _ _ x => x
    obtain ⟨rfl, kw⟩ := q
    refine wpAny_execs_nil ⟨rfl, ok'.leave kw hWX ok.own.locX ok.own.cellX, hIk _ _ _ W hWf hI' kw, ?_⟩
    exact Kp.leave (KpB.trans (Kp.any kp) kp') kw hWf hZl
  | some c =>
    have hi' : i < cs.length := by
      rcases Nat.lt_or_ge i cs.length with h | h
      · exact h
      · rw [List.getElem?_eq_none h] at hc; cases hc
    refine wpAny_mono (L.item _ _ _ i c _ hc hr.handled ok'.base ok'.xok hJ') (fun r s₃ q => ?_) fun _ _ x => x
    obtain ⟨v, rfl, q⟩ := q
    refine wpAny_mono q (fun _ s₄ q => ?_) fun _ _ x => x
    obtain ⟨rv, hJ4, k4⟩ := q
    have ok4 : Ok hB (W ++ X) env (f i) s₄ := ok'.off k4 (fun a ha => List.mem_append_left _ ha) hWown
    have hI4 : I i s₄ := hIk i _ _ W hWf hI' (KpW.ofB k4)
    refine wpAny_mono (turn (W ++ X) i c s₄ v _ (fun a h => List.mem_append_right _ h) hc ok4 hI4 rv) (fun _ s₅ q5 => ?_) fun _ _ x => x
    refine wpAny_mono q5 (fun fl s₆ q6 => ?_) fun _ _ x => x
    obtain ⟨rfl, ok6, hI6, k6⟩ := q6
    have hJ6 := L.frame _ _ _ _ _ _ hJ4 k6 hZX hZW (fun _ h => h) (fun _ _ h => h)
    refine ⟨cs.length - (i + 1), by omega, i + 1, rfl, hi', ok6, hJ6, hI6, ?_⟩
    exact (kp'.trans (k4.weak fun a ha => List.mem_append_right _ ha)).trans (k6.weak fun a ha => List.mem_append_left _ ha)

/-- the list of the frame's own, seen as a value -/
theorem Ok.seen {Y : List Addr} {s : Shared} {x : Str} {D : Addr} {its : Array Value} {ns : List Int} (ok : Ok hB Y env σ s) (hx : σ.lookup x = some (.ptr D)) (hDo : D ∉ ownOf env) (hpl : s.heap.PlainList D its) (hI : IntsAre its.toList ns) :
    Ok hB (Y.filter (· ≠ D)) env ((x, .list (iL ns)) :: σ) s := by
  have hsub : ∀ a ∈ Y.filter (· ≠ D), a ∈ Y := fun a h => (List.mem_filter.mp h).1
  have hin : ∀ a ∈ Y, a ≠ D → a ∈ Y.filter (· ≠ D) := fun a h hne => List.mem_filter.mpr ⟨h, by simpa using hne⟩
  refine ⟨ok.base, fun a h => ok.xok a (hsub a h), ?_, ?_⟩
  · refine { ok.own with locX := hin _ ok.own.locX fun h => hDo (h ▸ List.mem_cons_self), cellX := fun x c e => hin _ (ok.own.cellX x c e) fun h => hDo (h ▸ ownOf_cell e) }
  · intro y c e
    rw [List.lookup_cons] at e
    cases q : y == x with
    | true =>
      rw [q] at e; cases e
      have := beq_iff_eq.mp q; subst this
      obtain ⟨v, hv, r⟩ := ok.st y _ hx
      rw [show v = .ref D from r] at hv
      exact ⟨.ref D, hv, D, its, rfl, fun h => by simp at h, hpl, Rels.of_ints hI⟩
    | false =>
      rw [q] at e
      obtain ⟨v, hv, r⟩ := ok.st y c e
      exact ⟨v, hv, r.move (fun a _ hn hm => hn (hsub a hm)) (fun b o hb g => g) (Nat.le_refl _)⟩

theorem item_ints {ns : List Int} {i : Nat} (h : i < ns.length) (hn : i ≤ 1000) : ItemOk prog w hB (.list (iL ns)) (.int i) (.int (ns.getD i 0)) :=
  item_list (by omega) (by omega) (by rw [Int.toNat_natCast]; exact iL_at h)

noncomputable def factT (ns : List Int) (up down : Nat) (out : List Int) (x : Nat) : Int := (ns.getD x 0 - if x ≥ up then ns.getD (x - up) 0 else 0) + if x ≥ down then out.getD (x - down) 0 else 0
noncomputable def factO (ns : List Int) (up down : Nat) : Nat → List Int
  | 0 => []
  | n + 1 => factO ns up down n ++ [factT ns up down (factO ns up down n) n]
theorem factO_len (ns : List Int) (up down : Nat) : ∀ n, (factO ns up down n).length = n
  | 0 => rfl
  | n + 1 => by rw [factO, List.length_append, factO_len ns up down n]; rfl

theorem intsAre_snoc : ∀ {vs : List Value} {ns : List Int} {v : Value} {i j : Int}, IntsAre vs ns → IntsAre [v] [i] → i = j → IntsAre (vs ++ [v]) (ns ++ [j])
  | _, _, _, _, _, .nil, h, e => by subst e; exact h
  | _, _, _, _, _, .cons n t r, h, e => .cons n t (intsAre_snoc r h e)
theorem ev_lenI {p pos : Pos} {e : Expr} {ns : List Int} (T : Top prog w hB mg mb) (h : Ev prog w hB k env σ e (.list (iL ns))) (hn : ns.length ≤ 1000) (hk : 1 ≤ k) (hs : isStarred e = false) (hx : env.kindOf "len" = some .globalImplicit) :
    Ev prog w hB k env σ (.Call (.Name "len" p) [e] [] pos) (.int (ns.length : Nat)) := by
  have hl : (iL ns).length = ns.length := by simp [iL]
  refine ev_conv (ev_bi (fv := .builtin "len") T.glob (bi_len (xs := iL ns) (by omega)) (T.free _ (by decide +kernel)) (by kernel_rfl) rfl (evs_cons h evs_nil hs) hk (by simp [hs]) hx (by decide +kernel) (by decide +kernel)) (by rw [hl])
theorem fn_factor (T : Top prog w hB mg mb) {ns : List Int} {up down : Nat} (hn : ns.length ≤ 100) (hu : up ≤ 1000) (h0 : 1 ≤ up) (hd1 : 1 ≤ down) (hd : down ≤ 1000) :
    Fn prog w hB mg 2 "_law_factor" [.list (iL ns), .int up, .int down] (.list (iL (factO ns up down ns.length))) := by
  refine fn_of (k := 1) T.defs T.glob (d := defAt 23) (ps := ["row", "up", "down"]) (by simp [defs]) (fun pm code doc vs hv => ?_) (by decide +kernel) (by decide +kernel) rfl rfl rfl rfl fun L a cd => ?_
  · match vs, hv with
    | [a, b, c], _ => rfl
  refine ⟨?_⟩
  intro X A E s hr ok
  -- out = []
  refine wpAny_execs_cons (wpAny_Assign_Name (List_ (spliced_nil (wpAny_newObj_type ?_ (Nat.zero_le _)))) (by kernel_rfl))
  have kp1 : Kp s { s with heap := s.heap.push { cls := .type "list", dict := none, data := .seq ([] : List Value).toArray } } := Kp.push
  have hDf : ¬ Live s.heap s.heap.objs.size := not_live_size
  have hpl1 : (s.heap.push { cls := .type "list", dict := none, data := .seq ([] : List Value).toArray }).PlainList s.heap.objs.size #[] := ⟨_, Heap.get?_push_size _ rfl⟩
  generalize hs1 : ({ s with heap := s.heap.push { cls := .type "list", dict := none, data := .seq ([] : List Value).toArray } } : Shared) = s1 at kp1 ⊢
  have hpl1' : s1.heap.PlainList s.heap.objs.size #[] := by rw [← hs1]; exact hpl1
  clear hs1 hpl1
  generalize s.heap.objs.size = D at hDf hpl1' ⊢
  have hDl1 : Live s1.heap D := let ⟨n, e⟩ := hpl1'; ⟨_, e⟩
  have ok1 : Ok hB ([D] ++ X) (envF (defAt 23) L a cd) _ s1 := ok.widen kp1 fun b hb => by rw [List.mem_singleton.mp hb]; exact ⟨hDf, hDl1⟩
  obtain ⟨so, hso⟩ := slot_local (env := envF (defAt 23) L a cd) (x := "out") (by kernel_rfl)
  have hDo : D ∉ ownOf (envF (defAt 23) L a cd) := fun h => hDf (own_live ok.own ok.xok D h)
  have hDmy : D ∉ myOf (envF (defAt 23) L a cd) := fun h => hDo (myOf_own D h)
  refine wpAny_mono (store_ok (c := .ptr D) ok1 hso rfl) (fun _ s2 q2 => ?_) fun _ _ x => x
  obtain ⟨ok2, k2⟩ := q2
  have hso' : so ∈ myOf (envF (defAt 23) L a cd) := slot_own hso
  have hpl2 : s2.heap.PlainList D #[] := hpl1'.at fun o e => k2.get (fun h => hDmy (by rw [List.mem_singleton.mp h]; exact hso')) e
  have hdk : (decide (0 ≤ ns.length)) = true := by simp
  refine wpAny_execs_cons (wpAny_mono (for_raw (cs := natsC (List.range ns.length)) hr ok2 (src_rangeN T (ev_lenI T (ev_name (by (repeat (first | exact lookup_hd | refine lookup_tl (by decide +kernel) ?_))) (by decide +kernel) (by decide +kernel)) (by omega) (by omega) rfl (by kernel_rfl)) (by omega) rfl (by kernel_rfl)) (D :: myOf (envF (defAt 23) L a cd)) (fun b hb => ?_)
    (fun _ => [("out", .ptr D), ("row", .list (iL ns)), ("up", .int up), ("down", .int down)]) (fun _ _ h => h) (fun i s' => ∃ its, s'.heap.PlainList D its ∧ IntsAre its.toList (factO ns up down i)) ⟨#[], hpl2, .nil⟩ (fun i s3 s4 W hW h3 kw => ?_) (fun Y i c s' v E' hXY hc ok' hI rv => ?_) (fun _ => rfl)) (fun fl s3 q3 => ?_) fun _ _ x => x)
  · rcases List.mem_cons.mp hb with rfl | hb
    · exact List.mem_append_left _ List.mem_cons_self
    · exact ownOf_sub ok1.own b (myOf_own b hb)
  · obtain ⟨its, hp, hi⟩ := h3
    obtain ⟨h', tk, rfl, h1, h2⟩ := kw
    have hDl2 : Live s2.heap D := let ⟨n, e⟩ := hpl2; ⟨_, e⟩
    exact ⟨its, hp.at fun o e => h1 _ _ (fun h => hW D h hDl2) e, hi⟩
  · have hil : i < ns.length := by
      rcases Nat.lt_or_ge i ns.length with h | h
      · exact h
      · unfold natsC at hc; rw [List.getElem?_eq_none (by simpa using h)] at hc; cases hc
    have hci : c = .int i := by
      unfold natsC at hc
      rw [List.getElem?_map, List.getElem?_range hil] at hc
      simpa using hc.symm
    subst hci
    obtain ⟨its, hpl, hits⟩ := hI
    have hDY : D ∈ Y := hXY D (List.mem_append_left _ List.mem_cons_self)
    refine wpAny_mono ((bind_name (slot_local (by kernel_rfl))).run Y A E' s' v hr.handled ok' rv) (fun _ s4 q4 => ?_) fun _ _ x => x
    obtain ⟨ok4, k4⟩ := q4
    -- value = ...
    refine wpAny_execs_cons (wpAny_mono ((step_set (ev_bin op_sub (ev_sub (item_ints (ns := ns) (i := i) hil (by omega)) (ev_name (by (repeat (first | exact lookup_hd | refine lookup_tl (by decide +kernel) ?_))) (by decide +kernel) (by decide +kernel)) (ev_name (by (repeat (first | exact lookup_hd | refine lookup_tl (by decide +kernel) ?_))) (by decide +kernel) (by decide +kernel)) (fun _ _ => ⟨_, rfl⟩))
      (ev_if_i (d := 0) (tr_cmp op_ge (ev_name (by (repeat (first | exact lookup_hd | refine lookup_tl (by decide +kernel) ?_))) (by decide +kernel) (by decide +kernel)) (ev_name (by (repeat (first | exact lookup_hd | refine lookup_tl (by decide +kernel) ?_))) (by decide +kernel) (by decide +kernel)) rfl) (fun h => ev_sub (item_ints (ns := ns) (i := i - up) (by omega) (by omega)) (ev_name (by (repeat (first | exact lookup_hd | refine lookup_tl (by decide +kernel) ?_))) (by decide +kernel) (by decide +kernel)) (ev_conv (ev_bin op_sub (ev_name (by (repeat (first | exact lookup_hd | refine lookup_tl (by decide +kernel) ?_))) (by decide +kernel) (by decide +kernel)) (ev_name (by (repeat (first | exact lookup_hd | refine lookup_tl (by decide +kernel) ?_))) (by decide +kernel) (by decide +kernel))) (by have := of_decide_eq_true h; congr 1; omega)) (fun _ _ => ⟨_, rfl⟩)) (fun _ => ev_int))) (slot_local (by kernel_rfl)) (by kernel_rfl)).run Y A E' s4 hr ok4) (fun fl s5 q5 => ?_) fun _ _ x => x)
    obtain ⟨rfl, ok5, k5⟩ := q5
    have k45 : KpB (myOf (envF (defAt 23) L a cd)) s' s5 := k4.trans k5
    have hpl5 : s5.heap.PlainList D its := hpl.at fun o e => k45.get hDmy e
    -- out.append(...)
    refine wpAny_execs_cons (wpAny_Expr_any ?_ (by kernel_rfl) (by kernel_rfl))
    refine wpAny_Call_method1_late (by kernel_rfl) rfl rfl ?_
    have hlen : (factO ns up down i).length = i := factO_len ns up down i
    refine wpAny_mono ((ev_name (c := .ptr D) (by (repeat (first | exact lookup_hd | refine lookup_tl (by decide +kernel) ?_))) (by decide +kernel) (by decide +kernel)).run Y A E' s5 hr ok5) (fun ov s6 q6 => ?_) fun _ _ x => x
    obtain ⟨rfl, k6⟩ := q6
    have ok6 := ok5.kp k6
    have hpl6 : s6.heap.PlainList D its := hpl5.at fun o e => k6.get e
    refine ⟨"list", "list.append", PySem.F.plainAttrs_list, PySem.F.slot_list_append, PySem.F.type_list_append, hpl6.isList.typeIs, (fun b e => by cases e; obtain ⟨n, e⟩ := hpl6; exact ⟨_, e, rfl⟩), ?_⟩
    have okS := ok6.seen (x := "out") (by (repeat (first | exact lookup_hd | refine lookup_tl (by decide +kernel) ?_))) hDo hpl6 hits
    refine Calls.callWith_builtin rfl (Calls.evalArgs_plain (Calls.spliced_cons (wpAny_mono ((ev_bin op_add (ev_name (by (repeat (first | exact lookup_hd | refine lookup_tl (by decide +kernel) ?_))) (by decide +kernel) (by decide +kernel)) (ev_if_i (d := 0) (tr_cmp op_ge (ev_name (by (repeat (first | exact lookup_hd | refine lookup_tl (by decide +kernel) ?_))) (by decide +kernel) (by decide +kernel)) (ev_name (by (repeat (first | exact lookup_hd | refine lookup_tl (by decide +kernel) ?_))) (by decide +kernel) (by decide +kernel)) rfl) (fun h => ev_sub (item_ints (ns := factO ns up down i) (i := i - down) (by have := of_decide_eq_true h; omega) (by omega)) (ev_name (by (repeat (first | exact lookup_hd | refine lookup_tl (by decide +kernel) ?_))) (by decide +kernel) (by decide +kernel)) (ev_conv (ev_bin op_sub (ev_name (by (repeat (first | exact lookup_hd | refine lookup_tl (by decide +kernel) ?_))) (by decide +kernel) (by decide +kernel)) (ev_name (by (repeat (first | exact lookup_hd | refine lookup_tl (by decide +kernel) ?_))) (by decide +kernel) (by decide +kernel))) (by have := of_decide_eq_true h; congr 1; omega)) (fun _ _ => ⟨_, rfl⟩)) (fun _ => ev_int))).run _ A E' s6 hr okS) (fun v7 s7 q7 => Calls.spliced_nil ?_) fun _ _ x => x)))
    obtain ⟨⟨t7, rfl⟩, k7⟩ := q7
    have ok7 := ok6.kp k7
    have hpl7 : s7.heap.PlainList D its := hpl6.at fun o e => k7.get e
    have hsz : its.size ≤ sizeLine := by
      have : its.toList.length = (factO ns up down i).length := (Rels.of_ints (X := []) (h := s7.heap) (n := 0) hits).length.trans (by simp)
      rw [Array.length_toList, hlen] at this
      exact size_ok (by omega)
    refine wpAny_list_append_plain hpl7 (fun h8 hpl8 hs8 => wpAny_execs_nil ⟨rfl, ?_, ⟨_, hpl8, ?_⟩, ?_⟩) hsz
    · have k8 : KpB [D] s7 { s7 with heap := h8 } := KpB.same (tk := s7.toks) hs8 (let ⟨n, e⟩ := hpl8; ⟨_, e⟩) (Nat.le_refl _) (by simp)
      refine (ok7.off k8 (fun b hb => by rw [List.mem_singleton.mp hb]; exact hDY) (fun b hb hm => hDo (by rw [← List.mem_singleton.mp hm]; exact hb))).sub (sub_skip (by kernel_rfl) (sub_skip (by kernel_rfl) sub_refl))
    · rw [Array.toList_push, factO]
      exact (intsAre_snoc hits (.cons _ t7 .nil) (by unfold factT; simp only [ge_iff_le, decide_eq_true_eq, Int.ofNat_le]))
    · have k8 : KpB [D] s7 { s7 with heap := h8 } := KpB.same (tk := s7.toks) hs8 (let ⟨n, e⟩ := hpl8; ⟨_, e⟩) (Nat.le_refl _) (by simp)
      exact ((k45.weak fun b hb => List.mem_cons_of_mem _ hb).trans (Kp.any (k6.trans k7))).trans (k8.weak fun b hb => by rw [List.mem_singleton.mp hb]; exact List.mem_cons_self)
  · obtain ⟨rfl, ok3, ⟨its, hpl3, hits⟩, k3⟩ := q3
    have hl : (natsC (List.range ns.length)).length = ns.length := by simp [natsC]
    rw [hl] at hits
    refine wpAny_execs_cons (wpAny_Return_some (wpAny_mono ((ev_name (c := .ptr D) (by (repeat (first | exact lookup_hd | refine lookup_tl (by decide +kernel) ?_))) (by decide +kernel) (by decide +kernel)).run _ A _ s3 hr ok3) (fun ov s6 q6 => ?_) fun _ _ x => x))
    obtain ⟨rfl, k6⟩ := q6
    have hDX : D ∉ X := fun h => hDf (ok.xok D h).2
    refine ⟨⟨_, rfl, D, its, rfl, hDX, hpl3.at fun o e => k6.get e, Rels.of_ints hits⟩, ?_⟩
    have kk : KpB (D :: myOf (envF (defAt 23) L a cd)) s s6 := (((Kp.any kp1).trans (k2.weak fun b hb => by rw [List.mem_singleton.mp hb]; exact List.mem_cons_of_mem _ hso')).trans k3).trans (Kp.any k6)
    refine kk.drop fun b hb => ?_
    rcases List.mem_cons.mp hb with rfl | hb
    · exact .inr hDf
    · exact .inl hb
end
end Mine

namespace Mine
open PySem PySem.W PySem.Calls PyProof.Rows

noncomputable def pickA {α : Type} (xs : List α) (lo hi st : Option Int) : List α :=
  (sliceRange (sliceBounds lo hi st xs.length).1 (sliceBounds lo hi st xs.length).2.1 (sliceBounds lo hi st xs.length).2.2).filterMap (xs[·]?)
theorem pickA_map {α β : Type} (f : α → β) (xs : List α) (lo hi st : Option Int) : pickA (xs.map f) lo hi st = (pickA xs lo hi st).map f := by
  unfold pickA
  rw [List.length_map, List.map_filterMap]
  congr 1
  funext i
  rw [List.getElem?_map]
theorem pickA_len {α : Type} (xs : List α) (n : Nat) : (pickA xs none (some (n : Int)) none).length ≤ n := by
  unfold pickA
  refine Nat.le_trans (List.length_filterMap_le _ _) (Nat.le_trans (sliceRange_len_le _ _ _ (by simp [sliceBounds])) ?_)
  simp [sliceBounds]
  omega
theorem pickA_len' {α : Type} (xs : List α) (lo hi st : Option Int) : (pickA xs lo hi st).length ≤ xs.length := by
  have := slicePick_size_le (xs.map fun _ => Value.none).toArray lo hi st
  unfold slicePick at this
  have e : (pickA xs lo hi st).length = (pickA (xs.map fun _ => Value.none) lo hi st).length := by rw [pickA_map, List.length_map]
  rw [e]
  unfold pickA
  simpa using this
theorem fdiv_nat (a b : Nat) : Int.fdiv (a : Int) (b : Int) = ((a / b : Nat) : Int) := by
  rw [Int.fdiv_eq_ediv_of_nonneg _ (by omega)]; norm_cast

section
variable {prog : Program} {w : World} {hB : Heap} {k : Nat} {env : Env} {σ : Sig} {mg mb : Str → Option Value}

theorem step_conv {st : Stmt} {σ₁ σ₂ : Sig} (h : Step1 prog w hB k env σ st σ₁) (e : σ₁ = σ₂) : Step1 prog w hB k env σ st σ₂ := e ▸ h

noncomputable def stepJ (sw : Nat × Nat) (j : Nat) : Nat × Nat := (sw.1 + 1, sw.2 * (sw.1 + 1) / j)
noncomputable def jList (c : Nat) : List Nat := (List.range c).map (1 + ·)
noncomputable def inX (counts : List Nat) (sw : Nat × Nat) (x : Nat) : Nat × Nat := (jList (counts.getD x 0)).foldl stepJ sw
noncomputable def sizeWays (counts block : List Nat) : Nat × Nat := block.foldl (inX counts) (0, 1)
noncomputable def blockOf (W : Mat) (f : Nat) : List Nat := (List.range 3).flatMap fun x => if W.at f x == W.at x f then [x] else []
noncomputable def dueInner (due : List Int) (laid : Nat) (js : List Nat) : List Int := js.foldl (fun due j => factO due (laid + j) j due.length) due
noncomputable def moreOf (W : Mat) (f size : Nat) : Nat := if W.at f f != 0 then size * (size - 1) / 2 else 0
noncomputable def dueMore (more ways : Nat) (due : List Int) : List Int := pickA (List.replicate more 0 ++ due.map ((ways : Int) * ·)) none (some 7) none
noncomputable def dueStep (W : Mat) (counts : List Nat) (dl : List Int × Nat) (f : Nat) : List Int × Nat :=
  if ((blockOf W f).getD 0 0 : Int) == f then
    (dueMore (moreOf W f (sizeWays counts (blockOf W f)).1) (sizeWays counts (blockOf W f)).2 (dueInner dl.1 dl.2 (jList (sizeWays counts (blockOf W f)).1)), dl.2 + (sizeWays counts (blockOf W f)).1)
  else dl
noncomputable def dueAll (W : Mat) (counts : List Nat) (n : Nat) : List Int × Nat := (List.range n).foldl (dueStep W counts) ([1, 0, 0, 0, 0, 0, 0], 0)
noncomputable def dueS (W : Mat) (counts : List Nat) : List Int := (dueAll W counts 3).1.zipIdx.flatMap fun p => (List.range p.1.toNat).map fun _ => (p.2 : Int)

-- bounds
noncomputable def SwOk (sw : Nat × Nat) : Prop := sw.2 ≤ 12 ^ sw.1
theorem stepJ_ok {sw : Nat × Nat} {j : Nat} (h : SwOk sw) (hs : sw.1 < 12) : SwOk (stepJ sw j) := by
  unfold SwOk stepJ at *
  refine Nat.le_trans (Nat.div_le_self _ _) ?_
  rw [Nat.pow_succ]
  exact Nat.mul_le_mul h hs
theorem foldJ_ok : ∀ (js : List Nat) (sw : Nat × Nat), SwOk sw → sw.1 + js.length ≤ 12 → SwOk (js.foldl stepJ sw) ∧ (js.foldl stepJ sw).1 = sw.1 + js.length
  | [], sw, h, _ => ⟨h, rfl⟩
  | j :: r, sw, h, hs => by
    rw [List.length_cons] at hs
    obtain ⟨h1, h2⟩ := foldJ_ok r (stepJ sw j) (stepJ_ok h (by omega)) (by show sw.1 + 1 + r.length ≤ 12; omega)
    refine ⟨h1, h2.trans ?_⟩
    show sw.1 + 1 + r.length = _
    rw [List.length_cons]; omega
theorem jList_len (c : Nat) : (jList c).length = c := by simp [jList]
theorem foldX_ok {counts : List Nat} (hc : ∀ x, counts.getD x 0 ≤ 4) : ∀ (bs : List Nat) (sw : Nat × Nat), SwOk sw → sw.1 + 4 * bs.length ≤ 12 → SwOk (bs.foldl (inX counts) sw) ∧ (bs.foldl (inX counts) sw).1 ≤ sw.1 + 4 * bs.length
  | [], sw, h, _ => ⟨h, Nat.le_refl _⟩
  | x :: r, sw, h, hs => by
    rw [List.length_cons] at hs
    have hx := hc x
    obtain ⟨h1, h2⟩ := foldJ_ok (jList (counts.getD x 0)) sw h (by rw [jList_len]; omega)
    rw [jList_len] at h2
    obtain ⟨h3, h4⟩ := foldX_ok hc r (inX counts sw x) h1 (by unfold inX; omega)
    refine ⟨h3, Nat.le_trans h4 ?_⟩
    unfold inX
    rw [List.length_cons]; omega
theorem blockOf_len (W : Mat) (f : Nat) : (blockOf W f).length ≤ 3 := by
  refine Nat.le_trans (flat_len (b := 1) fun x _ => ?_) (by simp)
  split <;> simp
theorem blockOf_lt {W : Mat} {f x : Nat} (h : x ∈ blockOf W f) : x < 3 := by
  obtain ⟨y, hy, h⟩ := List.mem_flatMap.mp h
  split at h
  · rw [List.mem_singleton.mp h]; exact List.mem_range.mp hy
  · cases h
theorem blockOf_self {W : Mat} {f : Nat} (h : f < 3) : f ∈ blockOf W f :=
  List.mem_flatMap.mpr ⟨f, List.mem_range.mpr h, by simp⟩
theorem sizeWays_ok {counts : List Nat} (hc : ∀ x, counts.getD x 0 ≤ 4) {bs : List Nat} (hb : bs.length ≤ 3) : (sizeWays counts bs).2 ≤ 12 ^ 12 ∧ (sizeWays counts bs).1 ≤ 12 := by
  obtain ⟨h1, h2⟩ := foldX_ok hc bs (0, 1) (by unfold SwOk; simp) (by omega)
  have h3 : (sizeWays counts bs).1 ≤ 12 := by unfold sizeWays; omega
  exact ⟨Nat.le_trans h1 (Nat.pow_le_pow_right (by omega) h3), h3⟩
theorem dueInner_len : ∀ (js : List Nat) (due : List Int) (laid : Nat), (dueInner due laid js).length = due.length
  | [], _, _ => rfl
  | j :: r, due, laid => by
    show (dueInner (factO due (laid + j) j due.length) laid r).length = _
    rw [dueInner_len r, factO_len]
theorem dueStep_len {W : Mat} {counts : List Nat} (hc : ∀ x, counts.getD x 0 ≤ 4) {dl : List Int × Nat} {f : Nat} (h : dl.1.length ≤ 7) : (dueStep W counts dl f).1.length ≤ 7 ∧ (dueStep W counts dl f).2 ≤ dl.2 + 12 := by
  have h3 := (sizeWays_ok hc (blockOf_len W f)).2
  unfold dueStep
  split
  · exact ⟨pickA_len _ 7, by show dl.2 + _ ≤ _; omega⟩
  · exact ⟨h, by omega⟩
theorem dueAll_succ (W : Mat) (counts : List Nat) (n : Nat) : dueAll W counts (n + 1) = dueStep W counts (dueAll W counts n) n := by
  unfold dueAll
  rw [List.range_succ, List.foldl_append]; rfl
theorem dueAll_ok (W : Mat) {counts : List Nat} (hc : ∀ x, counts.getD x 0 ≤ 4) : ∀ n, (dueAll W counts n).1.length ≤ 7 ∧ (dueAll W counts n).2 ≤ 12 * n
  | 0 => by simp [dueAll]
  | n + 1 => by
    obtain ⟨h1, h2⟩ := dueAll_ok W hc n
    rw [dueAll_succ]
    obtain ⟨h3, h4⟩ := dueStep_len (W := W) hc (f := n) h1
    exact ⟨h3, by omega⟩
theorem foldl_take {α β : Type} (f : β → α → β) {l : List α} {i : Nat} {x : α} (b : β) (h : l[i]? = some x) : (l.take (i + 1)).foldl f b = f ((l.take i).foldl f b) x := by
  rw [List.take_add_one, h, List.foldl_append]; rfl
theorem natsC_at {l : List Nat} {i : Nat} {c : CV} (h : (natsC l)[i]? = some c) : ∃ x, l[i]? = some x ∧ c = .int x := by
  unfold natsC at h
  rw [List.getElem?_map] at h
  cases e : l[i]? with
  | none => rw [e] at h; cases h
  | some x => rw [e] at h; cases h; exact ⟨x, rfl, rfl⟩
theorem mem_jList {c j : Nat} (h : j ∈ jList c) : 1 ≤ j ∧ j ≤ c := by
  obtain ⟨q, hq, rfl⟩ := List.mem_map.mp h
  have := List.mem_range.mp hq
  omega
end
end Mine

namespace Mine
open PySem PySem.W PySem.Calls PyProof.Rows

section
variable {prog : Program} {w : World} {hB : Heap} {k : Nat} {env : Env} {σ : Sig} {mg mb : Str → Option Value}

theorem ev_ilist {e : Expr} {cs : List CV} {ns : List Int} (h : Ev prog w hB k env σ e (.list cs)) (e1 : cs = iL ns) : Ev prog w hB k env σ e (.list (iL ns)) := e1 ▸ h

noncomputable def bodyOf : Option Stmt → List Stmt
  | some (Stmt.For _ _ b _ _) => b
  | _ => []
theorem npl {x y : Int} (h : y.natAbs < 1000000) : Builtin.divisionGoesByPylong x y = false := by
  have key : (if y == 0 then 0 else y.natAbs.log2 / 30 + 1) ≤ 300 := by
    split
    · omega
    · rename_i hy
      have h0 : y.natAbs ≠ 0 := by simpa using hy
      have h30 : y.natAbs.log2 < 30 := (Nat.log2_lt h0).mpr (by omega)
      omega
  show (decide ((if y == 0 then 0 else y.natAbs.log2 / 30 + 1) > 300) && _) = false
  rw [decide_eq_false (Nat.not_lt.mpr key), Bool.false_and]
theorem foldJ_fst : ∀ (js : List Nat) (sw : Nat × Nat), (js.foldl stepJ sw).1 = sw.1 + js.length
  | [], _ => rfl
  | j :: r, sw => (foldJ_fst r (stepJ sw j)).trans (by show sw.1 + 1 + r.length = _; rw [List.length_cons]; omega)
theorem foldX_fst {counts : List Nat} (hc : ∀ x, counts.getD x 0 ≤ 4) : ∀ (bs : List Nat) (sw : Nat × Nat), (bs.foldl (inX counts) sw).1 ≤ sw.1 + 4 * bs.length
  | [], _ => Nat.le_refl _
  | x :: r, sw => by
    have h1 := foldX_fst hc r (inX counts sw x)
    have h2 := foldJ_fst (jList (counts.getD x 0)) sw
    have h3 := hc x
    rw [jList_len] at h2
    refine Nat.le_trans h1 ?_
    unfold inX
    rw [List.length_cons]; omega
theorem sub_mk {σ τ : Sig} {y : Str} {d : CV} (h : τ.lookup y = some d) (r : Sub σ τ) : Sub ((y, d) :: σ) τ := fun x c e => by
  rw [List.lookup_cons] at e
  cases q : x == y with
  | true => rw [q] at e; cases e; rw [beq_iff_eq.mp q]; exact h
  | false => rw [q] at e; exact r x c e
theorem sub_trans {σ τ ρ : Sig} (h1 : Sub σ τ) (h2 : Sub τ ρ) : Sub σ ρ := fun x c e => h2 x c (h1 x c e)
/-- the signature of the due's frame -/
noncomputable def dueSig (W : Mat) (counts : List Nat) (dl : List Int × Nat) : Sig := [("due", .list (iL dl.1)), ("laid", .int dl.2), ("wrong", matC W), ("counts", .list (natsC counts))]

theorem more_eq (W : Mat) (f s : Nat) : (if (W.at f f != 0) = true then Int.fdiv ((s : Int) * ((s : Int) - 1)) 2 else 0) = (moreOf W f s : Nat) := by
  unfold moreOf
  split
  · cases s with
    | zero => rfl
    | succ n =>
      have e : (((n + 1 : Nat) : Int)) * (((n + 1 : Nat) : Int) - 1) = (((n + 1) * (n + 1 - 1) : Nat) : Int) := by
        rw [Int.natCast_mul, Nat.add_sub_cancel]; congr 1; omega
      rw [e]
      exact fdiv_nat _ 2
  · rfl
theorem due_block (T : Top prog w hB mg mb) {W : Mat} (hW : MatOk W) {counts : List Nat} (hl : counts.length = 3) (hc : ∀ x, counts.getD x 0 ≤ 4) {L a : Addr} {cd : Value} {f : Nat} (hf : f < 3) {dl : List Int × Nat} (hd : dl.1.length ≤ 7) (hd2 : dl.2 ≤ 36) :
    Steps prog w hB 3 (envF (defAt 24) L a cd) (("first", .int f) :: dueSig W counts dl)
      (bodyOf (defAt 24).body[1]?) (dueSig W counts (dueStep W counts dl f)) := by
  have hB3 := blockOf_len W f
  have hBne : 0 < (blockOf W f).length := List.length_pos_of_mem (blockOf_self hf)
  -- block = [...]
  have hblk : (blockOf W f).map (fun (x : Nat) => CV.int x) = (List.range 3).flatMap fun x => if W.at f x == W.at x f then [CV.int x] else [] := by
    unfold blockOf
    rw [List.map_flatMap]
    congr 1
    funext x
    split <;> rfl
  refine steps_cons (σ' := ("block", .list (natsC (blockOf W f))) :: ("first", .int f) :: dueSig W counts dl) (step_conv (step_setC (List.range 3) (fun (x : Nat) => CV.int x) (fun x => if W.at f x == W.at x f then [CV.int x] else []) [("wrong", matC W), ("first", .int f)] (by kernel_rfl) (slot_local (by kernel_rfl)) (by kernel_rfl)
      (cap_cons (by (repeat (first | exact lookup_hd | refine lookup_tl (by decide +kernel) ?_))) (by kernel_rfl) (cap_cons (by (repeat (first | exact lookup_hd | refine lookup_tl (by decide +kernel) ?_))) (by kernel_rfl) cap_nil)) (src_rangeN (n := 3) T ev_int (by omega) rfl (by kernel_rfl)) (fun C x hx => ?_) ?_ (fun _ => rfl)) (by rw [← hblk]; rfl)) ?_
  · have hx3 : x < 3 := List.mem_range.mp hx
    refine ⟨_, (W.at f x == W.at x f), bind_name (slot_local (by kernel_rfl)), sub_skip (by kernel_rfl) sub_refl, tests_one ?_, fun hb => ?_, fun hb => ?_⟩
    · refine tr_cmp op_eq (ev_weak (ev_wrong hW hf hx3 (ev_name (by (repeat (first | exact lookup_hd | refine lookup_tl (by decide +kernel) ?_))) (by decide +kernel) (by decide +kernel)) (ev_name (by (repeat (first | exact lookup_hd | refine lookup_tl (by decide +kernel) ?_))) (by decide +kernel) (by decide +kernel)) (ev_name (by (repeat (first | exact lookup_hd | refine lookup_tl (by decide +kernel) ?_))) (by decide +kernel) (by decide +kernel)) (fun _ _ => ⟨_, rfl⟩) (fun _ _ => ⟨_, rfl⟩))) (ev_weak (ev_wrong hW hx3 hf (ev_name (by (repeat (first | exact lookup_hd | refine lookup_tl (by decide +kernel) ?_))) (by decide +kernel) (by decide +kernel)) (ev_name (by (repeat (first | exact lookup_hd | refine lookup_tl (by decide +kernel) ?_))) (by decide +kernel) (by decide +kernel)) (ev_name (by (repeat (first | exact lookup_hd | refine lookup_tl (by decide +kernel) ?_))) (by decide +kernel) (by decide +kernel)) (fun _ _ => ⟨_, rfl⟩) (fun _ _ => ⟨_, rfl⟩))) rfl
    · rw [if_pos hb]; exact emit_last rfl (ev_name (by (repeat (first | exact lookup_hd | refine lookup_tl (by decide +kernel) ?_))) (by decide +kernel) (by decide +kernel))
    · rw [if_neg (by rw [hb]; decide)]
  · refine size_ok (Nat.le_trans (flat_len (b := 1) fun x _ => ?_) (by simp))
    split <;> simp
  -- if block[0] == first
  refine steps_cons (step_if (b := (((blockOf W f).getD 0 0 : Nat) : Int) == f) (tr_cmp op_eq (ev_sub (item_nats (i := 0) hBne (by omega)) (ev_name (by (repeat (first | exact lookup_hd | refine lookup_tl (by decide +kernel) ?_))) (by decide +kernel) (by decide +kernel)) ev_int (fun _ _ => ⟨_, rfl⟩)) (ev_name (by (repeat (first | exact lookup_hd | refine lookup_tl (by decide +kernel) ?_))) (by decide +kernel) (by decide +kernel)) rfl) (fun h => ?tt) (fun h => ?ff)) steps_nil
  case ff =>
    have hs : dueStep W counts dl f = dl := by unfold dueStep; rw [if_neg (by rw [h]; decide)]
    rw [hs]
    exact steps_sub steps_nil (sub_skip (by kernel_rfl) (sub_skip (by kernel_rfl) sub_refl))
  have hs : dueStep W counts dl f = (dueMore (moreOf W f (sizeWays counts (blockOf W f)).1) (sizeWays counts (blockOf W f)).2 (dueInner dl.1 dl.2 (jList (sizeWays counts (blockOf W f)).1)), dl.2 + (sizeWays counts (blockOf W f)).1) := by
    unfold dueStep; rw [if_pos h]
  rw [hs]
  obtain ⟨hw, hsz⟩ := sizeWays_ok hc hB3
  -- size, ways = (0, 1)
  refine steps_cons (step_tup (cs := [.int 0, .int 1]) (ev_tup (evs_cons ev_int (evs_cons ev_int evs_nil rfl) rfl) (by decide +kernel)) (binds_cons (binds_cons binds_nil (slot_cell (by kernel_rfl))) (slot_local (by kernel_rfl))) (by kernel_rfl) (by kernel_rfl) (by kernel_rfl) (by kernel_rfl)) ?_
  -- for x in block
  refine steps_cons (step_for (cs := natsC (blockOf W f)) (src_list (ev_name (by (repeat (first | exact lookup_hd | refine lookup_tl (by decide +kernel) ?_))) (by decide +kernel) (by decide +kernel))) (fun i => ("ways", .int (((blockOf W f).take i).foldl (inX counts) (0, 1)).2) :: ("size", .int (((blockOf W f).take i).foldl (inX counts) (0, 1)).1) :: ("first", .int f) :: dueSig W counts dl)
    (sub_cons (sub_cons (sub_skip (by kernel_rfl) sub_refl))) (fun i c hci => ?_) (fun _ => rfl)) ?_
  · obtain ⟨x, hx, rfl⟩ := natsC_at hci
    have hx3 : x < 3 := blockOf_lt (List.mem_of_getElem? hx)
    have hi3 : i < 3 := by
      rcases Nat.lt_or_ge i (blockOf W f).length with h | h
      · omega
      · rw [List.getElem?_eq_none h] at hx; cases hx
    refine ⟨_, bind_name (slot_local (by kernel_rfl)), ?_⟩
    rw [foldl_take _ _ hx]
    have hsw : (((blockOf W f).take i).foldl (inX counts) (0, 1)).1 ≤ 8 := by
      have h1 := foldX_fst hc ((blockOf W f).take i) (0, 1)
      have h2 : ((blockOf W f).take i).length ≤ i := by rw [List.length_take]; omega
      omega
    generalize ((blockOf W f).take i).foldl (inX counts) (0, 1) = sw at hsw
    have hcx := hc x
    refine steps_cons (step_for (cs := natsC (jList (counts.getD x 0))) (src_rangeN2 (m := 1) (n := counts.getD x 0 + 1) T ev_int (ev_conv (ev_bin op_add (ev_sub (item_nats (ns := counts) (i := x) (by omega) (by omega)) (ev_name (by (repeat (first | exact lookup_hd | refine lookup_tl (by decide +kernel) ?_))) (by decide +kernel) (by decide +kernel)) (ev_name (by (repeat (first | exact lookup_hd | refine lookup_tl (by decide +kernel) ?_))) (by decide +kernel) (by decide +kernel)) (fun _ _ => ⟨_, rfl⟩)) ev_int) (congrArg CV.int (by omega))) (by omega) (by omega) rfl rfl (by kernel_rfl))
      (fun i2 => ("ways", .int (((jList (counts.getD x 0)).take i2).foldl stepJ sw).2) :: ("size", .int (((jList (counts.getD x 0)).take i2).foldl stepJ sw).1) :: ("first", .int f) :: dueSig W counts dl) (sub_skip (by kernel_rfl) sub_refl) (fun i2 c2 hc2 => ?_) (fun _ => rfl)) (steps_sub steps_nil ?_)
    · obtain ⟨j, hj, rfl⟩ := natsC_at hc2
      have hj1 := mem_jList (List.mem_of_getElem? hj)
      refine ⟨_, bind_name (slot_local (by kernel_rfl)), ?_⟩
      rw [foldl_take _ _ hj]
      have hsv : (((jList (counts.getD x 0)).take i2).foldl stepJ sw).1 ≤ 12 := by
        rw [foldJ_fst]
        have : ((jList (counts.getD x 0)).take i2).length ≤ 4 := by rw [List.length_take, jList_len]; omega
        omega
      generalize ((jList (counts.getD x 0)).take i2).foldl stepJ sw = sv at hsv
      refine steps_sub (steps_cons (step_set (ev_conv (ev_bin op_add (ev_name (by (repeat (first | exact lookup_hd | refine lookup_tl (by decide +kernel) ?_))) (by decide +kernel) (by decide +kernel)) ev_int) (congrArg CV.int (show ((sv.1 : Nat) : Int) + 1 = ((sv.1 + 1 : Nat) : Int) by omega))) (slot_local (by kernel_rfl)) rfl)
        (steps_cons (step_set (ev_conv (ev_bin (op_fdiv (i := ((sv.2 : Nat) : Int) * ((sv.1 + 1 : Nat) : Int)) (j := (j : Nat)) (by omega) (npl (by omega))) (ev_bin (op_mul (IntMulOk.of_right (intBits_le_64 (by omega) (by omega)))) (ev_name (by (repeat (first | exact lookup_hd | refine lookup_tl (by decide +kernel) ?_))) (by decide +kernel) (by decide +kernel)) (ev_name (by (repeat (first | exact lookup_hd | refine lookup_tl (by decide +kernel) ?_))) (by decide +kernel) (by decide +kernel))) (ev_name (by (repeat (first | exact lookup_hd | refine lookup_tl (by decide +kernel) ?_))) (by decide +kernel) (by decide +kernel))) (congrArg CV.int (show Int.fdiv (((sv.2 : Nat) : Int) * ((sv.1 + 1 : Nat) : Int)) (j : Nat) = ((sv.2 * (sv.1 + 1) / j : Nat) : Int) by rw [← Int.natCast_mul]; exact fdiv_nat _ _))) (slot_cell (by kernel_rfl)) rfl) steps_nil)) ?_
      exact sub_cons (sub_cons (sub_skip (by kernel_rfl) (sub_skip (by kernel_rfl) (sub_skip (by kernel_rfl) sub_refl))))
    · have hl4 : (natsC (jList (counts.getD x 0))).length = (jList (counts.getD x 0)).length := by simp [natsC]
      rw [hl4, List.take_length]
      exact sub_refl
  have hl5 : (natsC (blockOf W f)).length = (blockOf W f).length := by simp [natsC]
  rw [hl5, List.take_length]
  have hswE : (blockOf W f).foldl (inX counts) (0, 1) = sizeWays counts (blockOf W f) := rfl
  rw [hswE]
  generalize sizeWays counts (blockOf W f) = sw at hw hsz
  -- for j in range(1, size + 1)
  refine steps_cons (step_for (cs := natsC (jList sw.1)) (src_rangeN2 (m := 1) (n := sw.1 + 1) T ev_int (ev_conv (ev_bin op_add (ev_name (by (repeat (first | exact lookup_hd | refine lookup_tl (by decide +kernel) ?_))) (by decide +kernel) (by decide +kernel)) ev_int) (congrArg CV.int (by omega))) (by omega) (by omega) rfl rfl (by kernel_rfl))
    (fun i => ("due", .list (iL (dueInner dl.1 dl.2 ((jList sw.1).take i)))) :: ("ways", .int sw.2) :: ("size", .int sw.1) :: ("first", .int f) :: ("laid", .int dl.2) :: ("wrong", matC W) :: ("counts", .list (natsC counts)) :: []) (by (repeat (first | exact sub_nil | refine sub_mk (by (repeat (first | exact lookup_hd | refine lookup_tl (by decide +kernel) ?_))) ?_))) (fun i c hci => ?_) (fun _ => rfl)) ?_
  · obtain ⟨j, hj, rfl⟩ := natsC_at hci
    have hj1 := mem_jList (List.mem_of_getElem? hj)
    refine ⟨_, bind_name (slot_local (by kernel_rfl)), ?_⟩
    have hdi : dueInner dl.1 dl.2 ((jList sw.1).take (i + 1)) = factO (dueInner dl.1 dl.2 ((jList sw.1).take i)) (dl.2 + j) j (dueInner dl.1 dl.2 ((jList sw.1).take i)).length := by
      unfold dueInner
      rw [foldl_take _ _ hj]
    rw [hdi]
    have hdl : (dueInner dl.1 dl.2 ((jList sw.1).take i)).length ≤ 7 := by rw [dueInner_len]; exact hd
    generalize dueInner dl.1 dl.2 ((jList sw.1).take i) = due at hdl
    refine steps_sub (steps_cons (step_set (ev_call T.glob (fn_factor T (ns := due) (up := dl.2 + j) (down := j) (by omega) (by omega) (by omega) (by omega) (by omega)) (by omega) (evs_cons (ev_name (by (repeat (first | exact lookup_hd | refine lookup_tl (by decide +kernel) ?_))) (by decide +kernel) (by decide +kernel)) (evs_cons (ev_conv (ev_bin op_add (ev_name (by (repeat (first | exact lookup_hd | refine lookup_tl (by decide +kernel) ?_))) (by decide +kernel) (by decide +kernel)) (ev_name (by (repeat (first | exact lookup_hd | refine lookup_tl (by decide +kernel) ?_))) (by decide +kernel) (by decide +kernel))) (congrArg CV.int (by omega))) (evs_cons (ev_name (by (repeat (first | exact lookup_hd | refine lookup_tl (by decide +kernel) ?_))) (by decide +kernel) (by decide +kernel)) evs_nil rfl) rfl) rfl) rfl (by kernel_rfl) (by decide +kernel)) (slot_local (by kernel_rfl)) rfl) steps_nil) (sub_cons (sub_skip (by kernel_rfl) (sub_skip (by kernel_rfl) sub_refl)))
  have hl6 : (natsC (jList sw.1)).length = (jList sw.1).length := by simp [natsC]
  rw [hl6, List.take_length]
  have hdl : (dueInner dl.1 dl.2 (jList sw.1)).length ≤ 7 := by rw [dueInner_len]; exact hd
  generalize dueInner dl.1 dl.2 (jList sw.1) = due at hdl
  -- more
  refine steps_cons (step_set (ev_conv (ev_if_i (tr_int (ev_weak (ev_wrong hW hf hf (ev_name (by (repeat (first | exact lookup_hd | refine lookup_tl (by decide +kernel) ?_))) (by decide +kernel) (by decide +kernel)) (ev_name (by (repeat (first | exact lookup_hd | refine lookup_tl (by decide +kernel) ?_))) (by decide +kernel) (by decide +kernel)) (ev_name (by (repeat (first | exact lookup_hd | refine lookup_tl (by decide +kernel) ?_))) (by decide +kernel) (by decide +kernel)) (fun _ _ => ⟨_, rfl⟩) (fun _ _ => ⟨_, rfl⟩))) (fun _ => rfl)) (fun _ => ev_bin (op_fdiv (i := (sw.1 : Int) * ((sw.1 : Int) - 1)) (j := 2) (by omega) (npl (by omega))) (ev_bin (op_mul (mulok (by omega))) (ev_name (by (repeat (first | exact lookup_hd | refine lookup_tl (by decide +kernel) ?_))) (by decide +kernel) (by decide +kernel)) (ev_bin op_sub (ev_name (by (repeat (first | exact lookup_hd | refine lookup_tl (by decide +kernel) ?_))) (by decide +kernel) (by decide +kernel)) ev_int)) ev_int) (fun _ => ev_int)) (congrArg CV.int (more_eq W f sw.1))) (slot_local (by kernel_rfl)) rfl) ?_
  have hmo : moreOf W f sw.1 ≤ 66 := by
    unfold moreOf
    split
    · have h1 : sw.1 * (sw.1 - 1) ≤ 12 * 11 := Nat.mul_le_mul hsz (by omega)
      omega
    · omega
  -- due = ([0] * more + [...])[:7]
  refine steps_cons (step_set (ev_conv (ev_slice (xs := iL (List.replicate (moreOf W f sw.1) 0 ++ due.map ((sw.2 : Int) * ·))) (lo := none) (hi := some 7) (sp := none) ?_ part_none (part_some ev_int) part_none (by simp) ?_) (congrArg CV.list (show _ = iL (dueMore (moreOf W f sw.1) sw.2 due) from pickA_map CV.int _ none (some 7) none))) (slot_local (by kernel_rfl)) rfl) ?_
  · refine ev_ilist (evx_bin (op_addL ?_) (evx_bin (op_mulL (i := (moreOf W f sw.1 : Nat)) (by omega) (by omega) (by simp)) (ev_list (evs_cons ev_int evs_nil rfl) (by decide +kernel)) (ev_name (by (repeat (first | exact lookup_hd | refine lookup_tl (by decide +kernel) ?_))) (by decide +kernel) (by decide +kernel)))
      (ev_comp due CV.int (fun v => [CV.int ((sw.2 : Int) * v)]) [("ways", .int sw.2)] (by kernel_rfl) (cap_cons (by (repeat (first | exact lookup_hd | refine lookup_tl (by decide +kernel) ?_))) (by kernel_rfl) cap_nil) (src_list (ev_name (by (repeat (first | exact lookup_hd | refine lookup_tl (by decide +kernel) ?_))) (by decide +kernel) (by decide +kernel))) (fun C v hv => ?_) ?_ (fun _ => rfl))) ?_
    · refine size_ok ?_
      simp only [List.flatten_replicate_singleton, List.length_replicate, Int.toNat_natCast]
      have := flat_len (g := fun v => [CV.int ((sw.2 : Int) * v)]) (b := 1) (as := due) (fun _ _ => by simp)
      omega
    · refine ⟨_, true, bind_name (slot_local (by kernel_rfl)), sub_skip (by kernel_rfl) sub_refl, tests_nil, fun _ => emit_last rfl (ev_bin (op_mul (mulok (by omega))) (ev_name (by (repeat (first | exact lookup_hd | refine lookup_tl (by decide +kernel) ?_))) (by decide +kernel) (by decide +kernel)) (ev_name (by (repeat (first | exact lookup_hd | refine lookup_tl (by decide +kernel) ?_))) (by decide +kernel) (by decide +kernel))), fun h => nomatch h⟩
    · refine size_ok (Nat.le_trans (flat_len (b := 1) fun _ _ => by simp) (by omega))
    · unfold iL
      rw [List.map_append, List.map_map, List.map_replicate, List.flatten_replicate_singleton, Int.toNat_natCast, List.map_eq_flatMap]
      rfl
  · refine size_ok ?_
    simp [iL]
    omega
  -- laid
  refine steps_sub (steps_cons (step_set (ev_conv (ev_bin op_add (ev_name (by (repeat (first | exact lookup_hd | refine lookup_tl (by decide +kernel) ?_))) (by decide +kernel) (by decide +kernel)) (ev_name (by (repeat (first | exact lookup_hd | refine lookup_tl (by decide +kernel) ?_))) (by decide +kernel) (by decide +kernel))) (congrArg CV.int (show ((dl.2 : Nat) : Int) + ((sw.1 : Nat) : Int) = ((dl.2 + sw.1 : Nat) : Int) by omega))) (slot_local (by kernel_rfl)) rfl) steps_nil) (by (repeat (first | exact sub_nil | refine sub_mk (by (repeat (first | exact lookup_hd | refine lookup_tl (by decide +kernel) ?_))) ?_)))
end
end Mine

namespace Mine
open PySem PySem.W PySem.Calls PyProof.Rows

section
variable {prog : Program} {w : World} {hB : Heap} {k : Nat} {env : Env} {σ : Sig} {mg mb : Str → Option Value}

theorem enumC_iL (ns : List Int) : enumC (iL ns) = ns.zipIdx.map fun p => CV.tup [.int (p.2 : Nat), .int p.1] := by
  unfold enumC iL
  rw [List.mapIdx_eq_zipIdx_map, List.zipIdx_map, List.map_map]
  rfl
theorem src_rangeI {p pos : Pos} {e tgt : Expr} {n : Int} (T : Top prog w hB mg mb) (h : Ev prog w hB k env σ e (.int n)) (hn : -1000000000 ≤ n ∧ n ≤ 1000000000) (hs : isStarred e = false) (hx : env.kindOf "range" = some .globalImplicit) :
    Src prog w hB k env σ (.Call (.Name "range" p) [e] [] pos) tgt (natsC (List.range n.toNat)) := by
  refine src_conv (src_range1 T.glob (T.free _ (by decide +kernel)) h (by omega) hs hx) ?_
  unfold rangeC natsC
  simp

/-- the due's numbers stay small -/
noncomputable def DueSmall (W : Mat) (counts : List Nat) : Prop := ∀ x ∈ (dueAll W counts 3).1, -10000 ≤ x ∧ x ≤ 10000
theorem fn_due (T : Top prog w hB mg mb) {W : Mat} (hW : MatOk W) {counts : List Nat} (hl : counts.length = 3) (hc : ∀ x, counts.getD x 0 ≤ 4) (hsm : DueSmall W counts) :
    Fn prog w hB mg 4 "_law_due" [matC W, .list (natsC counts)] (.list (iL (dueS W counts))) := by
  refine fn2 T.defs T.glob (d := defAt 24) (x := "wrong") (y := "counts") (by simp [defs]) (fun _ _ _ _ _ => rfl) (by decide +kernel) (by decide +kernel) rfl rfl rfl fun L a cd => ?_
  -- due, laid = ([1] + [0] * 6, 0)
  refine run_step (step_swap (cs := [.list (iL [1, 0, 0, 0, 0, 0, 0]), .int (0 : Nat)]) (names := ["due", "laid"]) (ev_tup (evs_cons (ev_ilist (evx_bin (op_addL (by decide +kernel)) (ev_list (evs_cons ev_int evs_nil rfl) (by decide +kernel)) (evx_bin (op_mulL (by omega) (by omega) (by simp)) (ev_list (evs_cons ev_int evs_nil rfl) (by decide +kernel)) ev_int)) (by rfl)) (evs_cons ev_int evs_nil rfl) rfl) (by decide +kernel))
    (bindn_cons (bindn_cons bindn_nil (slot_local (by kernel_rfl))) (slot_local (by kernel_rfl))) rfl (by kernel_rfl) (by kernel_rfl)) ?_
  -- the loop
  refine run_step (step_for (cs := natsC (List.range 3)) (src_rangeN (n := 3) T ev_int (by omega) rfl (by kernel_rfl)) (fun i => dueSig W counts (dueAll W counts i)) (by (repeat (first | exact sub_nil | refine sub_mk (by (repeat (first | exact lookup_hd | refine lookup_tl (by decide +kernel) ?_))) ?_))) (fun i c hci => ?_) (fun _ => rfl)) ?_
  · obtain ⟨f, hf, rfl⟩ := natsC_at hci
    have hif : f = i ∧ i < 3 := by
      have hi : i < 3 := by
        rcases Nat.lt_or_ge i 3 with h | h
        · exact h
        · rw [List.getElem?_eq_none (by simpa using h)] at hf; cases hf
      rw [List.getElem?_range hi] at hf
      exact ⟨(Option.some.inj hf).symm, hi⟩
    obtain ⟨rfl, hi⟩ := hif
    obtain ⟨h1, h2⟩ := dueAll_ok W hc f
    refine ⟨_, bind_name (slot_cell (by kernel_rfl)), ?_⟩
    rw [dueAll_succ]
    exact due_block T hW hl hc hi h1 (by omega)
  have hl3 : (natsC (List.range 3)).length = 3 := by simp [natsC]
  rw [hl3]
  obtain ⟨h1, h2⟩ := dueAll_ok W hc 3
  have hsm' : ∀ x ∈ (dueAll W counts 3).1, -10000 ≤ x ∧ x ≤ 10000 := hsm
  have hdS : dueS W counts = (dueAll W counts 3).1.zipIdx.flatMap fun p => (List.range p.1.toNat).map fun _ => (p.2 : Int) := rfl
  rw [hdS]
  generalize dueAll W counts 3 = dl at h1 h2 hsm'
  have he : iL (dl.1.zipIdx.flatMap fun p => (List.range p.1.toNat).map fun _ => (p.2 : Int)) = dl.1.zipIdx.flatMap fun p => (List.range p.1.toNat).flatMap fun _ => [CV.int (p.2 : Int)] := by
    unfold iL
    rw [List.map_flatMap]
    congr 1
    funext p
    rw [List.map_map, List.map_eq_flatMap]; rfl
  have hbound : (dl.1.zipIdx.flatMap fun p => (List.range p.1.toNat).flatMap fun _ => [CV.int (p.2 : Int)]).length ≤ sizeLine := by
    refine size_ok (Nat.le_trans (flat_len (b := 10000) fun p hp => ?_) ?_)
    · have hm : p.1 ∈ dl.1 := by
        have := List.mem_zipIdx hp
        rw [this.2.2]; exact List.getElem_mem _
      have := hsm' _ hm
      refine Nat.le_trans (flat_len (b := 1) fun _ _ => by simp) ?_
      rw [List.length_range]; omega
    · rw [List.length_zipIdx]; omega
  refine run_conv (run_ret (ev_comp dl.1.zipIdx (fun p => CV.tup [.int (p.2 : Nat), .int p.1]) (fun p => (List.range p.1.toNat).flatMap fun _ => [CV.int (p.2 : Int)]) [] (by kernel_rfl) cap_nil (src_conv (src_enumL T.glob (T.free _ (by decide +kernel)) (ev_name (by (repeat (first | exact lookup_hd | refine lookup_tl (by decide +kernel) ?_))) (by decide +kernel) (by decide +kernel)) rfl (by kernel_rfl)) (enumC_iL dl.1)) (fun C p hp => ?_) hbound (fun _ => rfl))) (congrArg CV.list he.symm)
  have hm : p.1 ∈ dl.1 := by
    have := List.mem_zipIdx hp
    rw [this.2.2]; exact List.getElem_mem _
  have hpb := hsm' _ hm
  refine ⟨_, true, bind_tup (binds_cons (binds_cons binds_nil (slot_local (by kernel_rfl))) (slot_local (by kernel_rfl))) (by kernel_rfl) (by kernel_rfl), by (repeat (first | exact sub_nil | refine sub_mk (by (repeat (first | exact lookup_hd | refine lookup_tl (by decide +kernel) ?_))) ?_)), tests_nil, fun _ => ?_, fun h => nomatch h⟩
  refine emit_next (List.range p.1.toNat) (fun (i : Nat) => CV.int i) _ rfl (src_rangeI T (ev_name (by (repeat (first | exact lookup_hd | refine lookup_tl (by decide +kernel) ?_))) (by decide +kernel) (by decide +kernel)) (by omega) rfl (by kernel_rfl)) (fun i hi => ?_) (fun _ => rfl)
  exact ⟨_, true, bind_name (slot_local (by kernel_rfl)), sub_skip (by kernel_rfl) sub_refl, tests_nil, fun _ => emit_last rfl (ev_name (by (repeat (first | exact lookup_hd | refine lookup_tl (by decide +kernel) ?_))) (by decide +kernel) (by decide +kernel)), fun h => nomatch h⟩
end
end Mine

namespace Mine
open PySem PySem.W PySem.Calls PyProof.Rows

mutual
theorem canLay_toPy : ∀ c : CV, c.np = true → (toPy c).canLay0 = true
  | .none, _ | .bool _, _ | .int _, _ | .tint _, _ | .intT _ _, _ | .ptr _, _ => rfl
  | .str _, h => h
  | .list xs, h => canLays_toPys xs h
  | .tup xs, h => canLays_toPys xs h
theorem canLays_toPys : ∀ cs : List CV, CV.nps cs = true → PyData.canLayAll0 (toPys cs) = true
  | [], _ => rfl
  | c :: cs, h => by
    obtain ⟨h1, h2⟩ : c.np = true ∧ CV.nps cs = true := Bool.and_eq_true_iff.mp h
    show ((toPy c).canLay0 && PyData.canLayAll0 (toPys cs)) = true
    rw [canLay_toPy c h1, canLays_toPys cs h2]; rfl
end
theorem depths_map {α : Type} {f : α → CV} {d : Nat} : ∀ {l : List α}, (∀ a ∈ l, (toPy (f a)).depth ≤ d) → PyData.depthAll (toPys (l.map f)) ≤ d
  | [], _ => Nat.zero_le _
  | a :: r, h => by
    show max (toPy (f a)).depth (PyData.depthAll (toPys (r.map f))) ≤ d
    exact Nat.max_le.mpr ⟨h a List.mem_cons_self, depths_map fun x hx => h x (List.mem_cons_of_mem _ hx)⟩
theorem depth_list {cs : List CV} {d : Nat} (h : PyData.depthAll (toPys cs) ≤ d) : (toPy (.list cs)).depth ≤ d + 1 := by
  show PyData.depthAll (toPys cs) + 1 ≤ d + 1
  omega
theorem depth_tup {cs : List CV} {d : Nat} (h : PyData.depthAll (toPys cs) ≤ d) : (toPy (.tup cs)).depth ≤ d + 1 := by
  show PyData.depthAll (toPys cs) + 1 ≤ d + 1
  omega
theorem shaped_of {c : CV} (hn : c.np = true) (h : (toPy c).depth ≤ 64) : SeqAt.shaped (toPy c) = true := by
  unfold SeqAt.shaped
  rw [canLay_toPy c hn, Bool.true_and]
  exact decide_eq_true h
end Mine

namespace Mine
open PySem PySem.W PySem.Calls PyProof.Rows

section
variable {prog : Program} {w : World} {hB : Heap} {k : Nat} {env : Env} {σ : Sig} {mg mb : Str → Option Value}

noncomputable def cellsOf (ns : List Int) : List Int := (pickA ns none (some 60) none).map fun n => n.fmod (10 ^ (6 : Int).toNat)
noncomputable def numsOf (ns : List Int) : List Int := ([1, 3, 5, 79, 21] : List Int).zipIdx.map fun p => p.1 + (pickA (cellsOf ns) (some (p.2 : Nat)) none (some 5)).sum
noncomputable def drawnOf (NS : List Int) : List Nat := (pickA NS none (some 3) none).map fun n => (n.fmod 8).toNat
noncomputable def letS (x : Nat) : Str := ch (letters.getD x 0)
theorem letS_at {x : Nat} (h : x < 8) : (⟨#[75, 83, 107, 115, 383, 119818, 119826, 119870]⟩ : Str).cps[x]? = some (letters.getD x 0) := by
  match x, h with
  | 0, _ | 1, _ | 2, _ | 3, _ | 4, _ | 5, _ | 6, _ | 7, _ => rfl
theorem ev_sumI {p pos : Pos} {e : Expr} {ns : List Int} (T : Top prog w hB mg mb) (h : Ev prog w hB k env σ e (.list (iL ns))) (hk : 1 ≤ k) (hs : isStarred e = false) (hx : env.kindOf "sum" = some .globalImplicit) :
    Ev prog w hB k env σ (.Call (.Name "sum" p) [e] [] pos) (.int ns.sum) :=
  ev_bi (fv := .builtin "sum") T.glob bi_sum (T.free _ (by decide +kernel)) (by kernel_rfl) rfl (evs_cons h evs_nil hs) hk (by simp [hs]) hx (by decide +kernel) (by decide +kernel)

theorem step_weak {st : Stmt} {σ₁ σ₂ : Sig} (h : Step1 prog w hB k env σ st σ₁) (hs : Sub σ₂ σ₁) : Step1 prog w hB k env σ st σ₂ := by
  refine ⟨?_⟩
  intro X A E s hr ok
  exact wpAny_mono (h.run X A E s hr ok) (fun f s' q => ⟨q.1, q.2.1.sub hs, q.2.2⟩) fun _ _ x => x
theorem ev_str_at {x y : Str} {n : Nat} {pos : Pos} (h : x = y) : Ev prog w hB k env σ (.Constant (.str x) n pos) (.str y) := h ▸ ev_str
theorem law_p1 (T : Top prog w hB mg mb) {L a : Addr} {cd : Value} {ns : List Int} (hn : ns.length ≤ 1000) {c : CV}
    (h : ∀ NS xs : List _, NS = numsOf ns → xs = drawnOf NS → Run prog w hB 6 (envF (defAt 25) L a cd) [("signs", .list (xs.map fun x => .str (letS x))), ("drawn", .list (natsC xs)), ("numbers", .list (iL NS)), ("script", .list (iL ns))] ((defAt 25).body.drop 4) c) :
    Run prog w hB 6 (envF (defAt 25) L a cd) [("script", .list (iL ns))] (defAt 25).body c := by
  -- cells
  have hc1 : iL (cellsOf ns) = (pickA ns none (some 60) none).flatMap fun n => [CV.int (n.fmod (10 ^ (6 : Int).toNat))] := by
    unfold cellsOf iL; rw [List.map_map, List.map_eq_flatMap]; rfl
  have hl1 : (pickA ns none (some 60) none).length ≤ 1000 := Nat.le_trans (pickA_len' _ _ _ _) hn
  refine run_step (σ' := [("cells", .list (iL (cellsOf ns))), ("script", .list (iL ns))]) (step_set ?_ (slot_cell (by kernel_rfl)) (by kernel_rfl)) ?_
  · rw [hc1]
    refine ev_comp (pickA ns none (some 60) none) CV.int _ [] (by kernel_rfl) cap_nil (src_conv (src_list (ev_slice (xs := iL ns) (lo := none) (hi := some 60) (sp := none) (ev_name (by (repeat (first | exact lookup_hd | refine lookup_tl (by decide +kernel) ?_))) (by decide +kernel) (by decide +kernel)) part_none (part_some ev_int) part_none (by simp) (size_ok (by simp [iL]; omega)))) (pickA_map CV.int ns none (some 60) none)) (fun C n hn' => ?_) (size_ok (Nat.le_trans (flat_len (b := 1) fun _ _ => by simp) (by omega))) (fun _ => rfl)
    refine ⟨_, true, bind_name (slot_local (by kernel_rfl)), by (repeat (first | exact sub_nil | refine sub_mk (by (repeat (first | exact lookup_hd | refine lookup_tl (by decide +kernel) ?_))) ?_)), tests_nil, fun _ => emit_last rfl ?_, fun h => nomatch h⟩
    exact ev_bin (op_mod (by decide)) (ev_bi (fv := .type "int") T.glob bi_int (T.free _ (by decide +kernel)) (by kernel_rfl) rfl (evs_cons (ev_name (by (repeat (first | exact lookup_hd | refine lookup_tl (by decide +kernel) ?_))) (by decide +kernel) (by decide +kernel)) evs_nil rfl) (by omega) rfl (by kernel_rfl) (by decide +kernel) (by decide +kernel)) (ev_bin (op_pow (by omega) (by omega) (by omega)) ev_int ev_int)
  -- numbers
  have hc2 : iL (numsOf ns) = ([1, 3, 5, 79, 21] : List Int).zipIdx.flatMap fun p => [CV.int (p.1 + (pickA (cellsOf ns) (some (p.2 : Nat)) none (some 5)).sum)] := by
    unfold numsOf iL; rw [List.map_map, List.map_eq_flatMap]; rfl
  have hl2 : (cellsOf ns).length ≤ 1000 := by unfold cellsOf; rw [List.length_map]; exact hl1
  refine run_step (σ' := [("numbers", .list (iL (numsOf ns))), ("script", .list (iL ns))]) (step_weak (step_set (c := .list (iL (numsOf ns))) ?_ (slot_cell (by kernel_rfl)) (by kernel_rfl)) (by (repeat (first | exact sub_nil | refine sub_mk (by (repeat (first | exact lookup_hd | refine lookup_tl (by decide +kernel) ?_))) ?_)))) ?_
  · rw [hc2]
    refine ev_comp ([1, 3, 5, 79, 21] : List Int).zipIdx (fun p => CV.tup [.int (p.2 : Nat), .int p.1]) _ [("cells", .list (iL (cellsOf ns)))] (by kernel_rfl) (cap_cons (by (repeat (first | exact lookup_hd | refine lookup_tl (by decide +kernel) ?_))) (by kernel_rfl) cap_nil) (src_conv (src_enumT T.glob (T.free _ (by decide +kernel)) (ev_ints [1, 3, 5, 79, 21] (by kernel_rfl) (by decide +kernel)) rfl (by kernel_rfl)) (enumC_iL _)) (fun C p hp => ?_) (size_ok (Nat.le_trans (flat_len (b := 1) fun _ _ => by simp) (by simp))) (fun _ => rfl)
    refine ⟨_, true, bind_tup (binds_cons (binds_cons binds_nil (slot_local (by kernel_rfl))) (slot_local (by kernel_rfl))) (by kernel_rfl) (by kernel_rfl), by (repeat (first | exact sub_nil | refine sub_mk (by (repeat (first | exact lookup_hd | refine lookup_tl (by decide +kernel) ?_))) ?_)), tests_nil, fun _ => emit_last rfl ?_, fun h => nomatch h⟩
    refine ev_bin op_add (ev_name (by (repeat (first | exact lookup_hd | refine lookup_tl (by decide +kernel) ?_))) (by decide +kernel) (by decide +kernel)) (ev_sumI T (ev_conv (ev_slice (xs := iL (cellsOf ns)) (lo := some (p.2 : Nat)) (hi := none) (sp := some 5) (ev_name (by (repeat (first | exact lookup_hd | refine lookup_tl (by decide +kernel) ?_))) (by decide +kernel) (by decide +kernel)) (part_some (ev_name (by (repeat (first | exact lookup_hd | refine lookup_tl (by decide +kernel) ?_))) (by decide +kernel) (by decide +kernel))) part_none (part_some ev_int) (by simp) (size_ok (by simp [iL]; omega))) (congrArg CV.list (pickA_map CV.int (cellsOf ns) (some (p.2 : Nat)) none (some 5)))) (by omega) rfl (by kernel_rfl))
  have h2 := h (numsOf ns) (drawnOf (numsOf ns)) rfl rfl
  have hl3 : (numsOf ns).length = 5 := by simp [numsOf]
  generalize numsOf ns = NS at h2 hl3
  -- drawn
  have hl4 : (pickA NS none (some 3) none).length ≤ 5 := hl3 ▸ pickA_len' NS none (some 3) none
  have hc3 : natsC (drawnOf NS) = (pickA NS none (some 3) none).flatMap fun n => [CV.int (n.fmod 8)] := by
    unfold drawnOf natsC
    rw [List.map_map, List.map_eq_flatMap]
    congr 1
    funext n
    have : 0 ≤ n.fmod 8 := Int.fmod_nonneg_of_pos n (by omega)
    show [CV.int (((n.fmod 8).toNat : Nat) : Int)] = _
    rw [Int.toNat_of_nonneg this]
  have hx8 : ∀ x ∈ drawnOf NS, x < 8 := by
    intro x hx
    unfold drawnOf at hx
    obtain ⟨n, _, rfl⟩ := List.mem_map.mp hx
    have h1 : 0 ≤ n.fmod 8 := Int.fmod_nonneg_of_pos n (by omega)
    have h2 : n.fmod 8 < 8 := Int.fmod_lt_of_pos n (by omega)
    omega
  have hl5 : (drawnOf NS).length ≤ 5 := by unfold drawnOf; rw [List.length_map]; exact hl4
  refine run_step (σ' := [("drawn", .list (natsC (drawnOf NS))), ("numbers", .list (iL NS)), ("script", .list (iL ns))]) (step_weak (step_set (c := .list (natsC (drawnOf NS))) ?_ (slot_cell (by kernel_rfl)) (by kernel_rfl)) (by (repeat (first | exact sub_nil | refine sub_mk (by (repeat (first | exact lookup_hd | refine lookup_tl (by decide +kernel) ?_))) ?_)))) ?_
  · rw [hc3]
    refine ev_comp (pickA NS none (some 3) none) CV.int _ [] (by kernel_rfl) cap_nil (src_conv (src_list (ev_slice (xs := iL NS) (lo := none) (hi := some 3) (sp := none) (ev_name (by (repeat (first | exact lookup_hd | refine lookup_tl (by decide +kernel) ?_))) (by decide +kernel) (by decide +kernel)) part_none (part_some ev_int) part_none (by simp) (size_ok (by simp [iL]; omega)))) (pickA_map CV.int NS none (some 3) none)) (fun C n hn' => ?_) (size_ok (Nat.le_trans (flat_len (b := 1) fun _ _ => by simp) (by omega))) (fun _ => rfl)
    exact ⟨_, true, bind_name (slot_local (by kernel_rfl)), by (repeat (first | exact sub_nil | refine sub_mk (by (repeat (first | exact lookup_hd | refine lookup_tl (by decide +kernel) ?_))) ?_)), tests_nil, fun _ => emit_last rfl (ev_bin (op_mod (by decide)) (ev_name (by (repeat (first | exact lookup_hd | refine lookup_tl (by decide +kernel) ?_))) (by decide +kernel) (by decide +kernel)) ev_int), fun h => nomatch h⟩
  -- signs
  generalize drawnOf NS = xs at h2 hx8 hl5
  refine run_step (σ' := [("signs", .list (xs.map fun x => .str (letS x))), ("drawn", .list (natsC xs)), ("numbers", .list (iL NS)), ("script", .list (iL ns))]) (step_set (c := .list (xs.map fun x => .str (letS x))) ?_ (slot_cell (by kernel_rfl)) (by kernel_rfl)) h2
  rw [List.map_eq_flatMap]
  refine ev_comp xs (fun (x : Nat) => CV.int x) _ [] (by kernel_rfl) cap_nil (src_list (ev_name (by (repeat (first | exact lookup_hd | refine lookup_tl (by decide +kernel) ?_))) (by decide +kernel) (by decide +kernel))) (fun C x hx => ?_) (size_ok (Nat.le_trans (flat_len (b := 1) fun _ _ => by simp) (by omega))) (fun _ => rfl)
  have hx' := hx8 x hx
  exact ⟨_, true, bind_name (slot_local (by kernel_rfl)), by (repeat (first | exact sub_nil | refine sub_mk (by (repeat (first | exact lookup_hd | refine lookup_tl (by decide +kernel) ?_))) ?_)), tests_nil, fun _ => emit_last rfl (ev_sub (item_str (i := (x : Nat)) (by omega) (by omega) (by rw [Int.toNat_natCast]; exact letS_at hx')) (ev_str_at (by kernel_rfl)) (ev_name (by (repeat (first | exact lookup_hd | refine lookup_tl (by decide +kernel) ?_))) (by decide +kernel) (by decide +kernel)) (fun _ _ => ⟨_, rfl⟩)), fun h => nomatch h⟩
end
end Mine

namespace Mine
open PySem PySem.W PySem.Calls PyProof.Rows

noncomputable def cmpS (x y : Nat) : Str := if decide ((y : Int) < x) then "1" else if decide ((x : Int) < y) then "-1" else "0"
theorem order_fact : ∀ x, x < 8 → ∀ y, y < 8 → (Str.ofString (toString (scoll (letS x) (letS y)))) = cmpS x y := by decide +kernel
theorem told_fact : ∀ x, x < 8 → ∀ y, y < 8 → toldS (letters.getD x 0) (letters.getD y 0) = kindS x y := by decide +kernel
theorem cmp_lay : ∀ x, x < 8 → ∀ y, y < 8 → PyData.strOk (cmpS x y) = true := by decide +kernel
theorem let_mem : ∀ x, x < 8 → letters.getD x 0 ∈ letters := by decide +kernel

noncomputable def ordC (xs : List Nat) : CV := .list (xs.map fun x => .list (xs.map fun y => .str (cmpS x y)))
noncomputable def kindsC (xs : List Nat) : CV := .list (xs.map fun x => .list (xs.map fun y => .int (kindS x y)))
theorem eqv_self {c : CV} (h : c.np = true) : PyData.eqv (toPy c) (toPy c) = true := PySem.SeqAt.eqv_refl _ (canLay_toPy c h)

section
variable {prog : Program} {w : World} {hB : Heap} {k : Nat} {env : Env} {σ : Sig} {mg mb : Str → Option Value}

theorem np_nest {xs : List Nat} {f : Nat → Nat → CV} (h : ∀ x ∈ xs, ∀ y ∈ xs, (f x y).np = true) : (CV.list (xs.map fun x => .list (xs.map fun y => f x y))).np = true :=
  nps_map fun x hx => nps_map fun y hy => h x hx y hy
theorem sh_nest {xs : List Nat} {f : Nat → Nat → CV} (h : ∀ x ∈ xs, ∀ y ∈ xs, (f x y).np = true) (hd : ∀ x y, (toPy (f x y)).depth ≤ 1) : SeqAt.shaped (toPy (.list (xs.map fun x => .list (xs.map fun y => f x y)))) = true :=
  shaped_of (np_nest h) (Nat.le_trans (depth_list (depths_map fun x _ => depth_list (depths_map fun y _ => hd x y))) (by omega))

theorem flat1 {α : Type} {as : List α} {h : α → CV} : as.flatMap (fun a => [h a]) = as.map h := (List.map_eq_flatMap ..).symm
theorem ev_comp1 {α : Type} (as : List α) (f : α → CV) (h : α → CV) {elt : Expr} {rest : List Comprehension} {scope : Scope} {pos : Pos} {tgt iter : Expr} {ifs : List Expr} (σc : Sig)
    (hc : compOk scope env = true) (hσ : Cap σ σc scope.names) (hsrc : Src prog w hB k env σ iter tgt (as.map f))
    (turns : ∀ C, ∀ a ∈ as, TurnS prog w hB k (cEnv scope env C) elt (⟨tgt, iter, ifs, 0⟩ :: rest) scope pos 0 tgt ifs σc (f a) [h a]) (hsz : as.length ≤ 1000)
    (hfold : ∀ x, foldedSetIterable iter env x = pure x) : Ev prog w hB k env σ (.ListComp elt (⟨tgt, iter, ifs, 0⟩ :: rest) scope pos) (.list (as.map h)) :=
  ev_conv (ev_comp as f (fun a => [h a]) σc hc hσ hsrc turns (size_ok (Nat.le_trans (flat_len (b := 1) fun _ _ => by simp) (by omega))) hfold) (congrArg CV.list flat1)
theorem step_setC1 {α : Type} (as : List α) (f : α → CV) (h : α → CV) {y : Str} {py spos : Pos} {elt : Expr} {rest : List Comprehension} {scope : Scope} {pos : Pos} {tgt iter : Expr} {ifs : List Expr} (σc : Sig)
    (hsw : swapsWith (.ListComp elt (⟨tgt, iter, ifs, 0⟩ :: rest) scope pos) (some (.Name y py)) spos.line env = pure true) (hs : ∃ a, Slot env y a)
    (hc : compOk scope env = true) (hσ : Cap σ σc scope.names) (hsrc : Src prog w hB k env σ iter tgt (as.map f))
    (turns : ∀ C, ∀ a ∈ as, TurnS prog w hB k (cEnv scope env C) elt (⟨tgt, iter, ifs, 0⟩ :: rest) scope pos 0 tgt ifs σc (f a) [h a]) (hsz : as.length ≤ 1000)
    (hfold : ∀ x, foldedSetIterable iter env x = pure x) : Step1 prog w hB k env σ (.Assign [.Name y py] (.ListComp elt (⟨tgt, iter, ifs, 0⟩ :: rest) scope pos) spos) ((y, .list (as.map h)) :: σ) :=
  step_conv (step_setC as f (fun a => [h a]) σc hsw hs hc hσ hsrc turns (size_ok (Nat.le_trans (flat_len (b := 1) fun _ _ => by simp) (by omega))) hfold) (by rw [flat1])
/-- a square of values by two loops -/
theorem ev_square {xs : List Nat} (hl : xs.length ≤ 5) {g : Nat → CV} {f : Nat → Nat → CV} {one two s1 s2 : Str} {p1 p2 q1 q2 : Pos} {elt : Expr} {sc1 sc2 : Scope} {pos1 pos2 : Pos} (σo σi : Sig)
    (hs : Ev prog w hB k env σ (.Name s1 q1) (.list (xs.map g))) (hc : compOk sc1 env = true) (hcap : Cap σ σo sc1.names)
    (hslot : ∀ C, ∃ a, Slot (cEnv sc1 env C) one a) (hsub : ∀ x, Sub σo ((one, g x) :: σo))
    (hs2 : ∀ C x, x ∈ xs → Ev prog w hB k (cEnv sc1 env C) ((one, g x) :: σo) (.Name s2 q2) (.list (xs.map g))) (hc2 : ∀ C, compOk sc2 (cEnv sc1 env C) = true) (hcap2 : ∀ x, Cap ((one, g x) :: σo) ((one, g x) :: σi) sc2.names)
    (hslot2 : ∀ C D, ∃ a, Slot (cEnv sc2 (cEnv sc1 env C) D) two a) (hsub2 : ∀ x y, Sub ((one, g x) :: σi) ((two, g y) :: (one, g x) :: σi))
    (he : ∀ C D x y, x ∈ xs → y ∈ xs → Ev prog w hB k (cEnv sc2 (cEnv sc1 env C) D) ((two, g y) :: (one, g x) :: σi) elt (f x y)) :
    Ev prog w hB k env σ (.ListComp (.ListComp elt [⟨.Name two p2, .Name s2 q2, [], 0⟩] sc2 pos2) [⟨.Name one p1, .Name s1 q1, [], 0⟩] sc1 pos1) (.list (xs.map fun x => .list (xs.map fun y => f x y))) := by
  refine ev_comp1 xs g _ σo hc hcap (src_list hs) (fun C x hx => ?_) (by omega) (fun _ => rfl)
  refine ⟨_, true, bind_name (hslot C), hsub x, tests_nil, fun _ => emit_last rfl ?_, fun h => nomatch h⟩
  refine ev_comp1 xs g _ _ (hc2 C) (hcap2 x) (src_list (hs2 C x hx)) (fun D y hy => ?_) (by omega) (fun _ => rfl)
  exact ⟨_, true, bind_name (hslot2 C D), hsub2 x y, tests_nil, fun _ => emit_last rfl (he C D x y hx hy), fun h => nomatch h⟩

theorem law_p2 (T : Top prog w hB mg mb) {L a : Addr} {cd : Value} {ns NS : List Int} {xs : List Nat} (hl : xs.length ≤ 5) (hx : ∀ x ∈ xs, x < 8) {c : CV}
    (h : Run prog w hB 6 (envF (defAt 25) L a cd) [("kinds", kindsC xs), ("told", kindsC xs), ("numbers", .list (iL NS))] ((defAt 25).body.drop 9) c) :
    Run prog w hB 6 (envF (defAt 25) L a cd) [("signs", .list (xs.map fun x => .str (letS x))), ("drawn", .list (natsC xs)), ("numbers", .list (iL NS)), ("script", .list (iL ns))] ((defAt 25).body.drop 4) c := by
  -- order
  refine run_step (σ' := ("order", ordC xs) :: [("signs", .list (xs.map fun x => .str (letS x))), ("drawn", .list (natsC xs)), ("numbers", .list (iL NS)), ("script", .list (iL ns))]) ?_ ?_
  · refine (step_setC1 xs (fun x => CV.str (letS x)) (fun x => .list (xs.map fun y => .str (cmpS x y))) [("signs", .list (xs.map fun x => .str (letS x)))] (by kernel_rfl) (slot_local (by kernel_rfl)) (by kernel_rfl) (cap_cons (by (repeat (first | exact lookup_hd | refine lookup_tl (by decide +kernel) ?_))) (by kernel_rfl) cap_nil) (src_list (ev_name (by (repeat (first | exact lookup_hd | refine lookup_tl (by decide +kernel) ?_))) (by decide +kernel) (by decide +kernel))) (fun C x hx1 => ?_) (by omega) (fun _ => rfl))
    refine ⟨_, true, bind_name (slot_cellC (by kernel_rfl) (by kernel_rfl)), by (repeat (first | exact sub_nil | refine sub_mk (by (repeat (first | exact lookup_hd | refine lookup_tl (by decide +kernel) ?_))) ?_)), tests_nil, fun _ => emit_last rfl ?_, fun h => nomatch h⟩
    refine ev_comp1 xs (fun x => CV.str (letS x)) (fun y => .str (cmpS x y)) [("one", .str (letS x))] (by kernel_rfl) (cap_cons (by (repeat (first | exact lookup_hd | refine lookup_tl (by decide +kernel) ?_))) (by kernel_rfl) cap_nil) (src_list (ev_name (by (repeat (first | exact lookup_hd | refine lookup_tl (by decide +kernel) ?_))) (by decide +kernel) (by decide +kernel))) (fun D y hy1 => ?_) (by omega) (fun _ => rfl)
    refine ⟨_, true, bind_name (slot_local (by kernel_rfl)), by (repeat (first | exact sub_nil | refine sub_mk (by (repeat (first | exact lookup_hd | refine lookup_tl (by decide +kernel) ?_))) ?_)), tests_nil, fun _ => emit_last rfl ?_, fun h => nomatch h⟩
    have hb : (scoll (letS x) (letS y)).natAbs < 1000 := by
      unfold scoll b2i'; split <;> split <;> simp
    exact ev_conv (ev_bi (fv := .type "str") T.glob (bi_str hb) (T.free _ (by decide +kernel)) (by kernel_rfl) rfl (evs_cons (ev_call T.glob (fn_strcoll T.defs T.glob) (by omega) (evs_cons (ev_name (by (repeat (first | exact lookup_hd | refine lookup_tl (by decide +kernel) ?_))) (by decide +kernel) (by decide +kernel)) (evs_cons (ev_name (by (repeat (first | exact lookup_hd | refine lookup_tl (by decide +kernel) ?_))) (by decide +kernel) (by decide +kernel)) evs_nil rfl) rfl) rfl (by kernel_rfl) (by decide +kernel)) evs_nil rfl) (by omega) rfl (by kernel_rfl) (by decide +kernel) (by decide +kernel)) (congrArg CV.str (order_fact x (hx x hx1) y (hx y hy1)))
  -- if order != ...
  have hnp : (ordC xs).np = true := np_nest fun x hx1 y hy1 => cmp_lay x (hx x hx1) y (hx y hy1)
  have hsh : SeqAt.shaped (toPy (ordC xs)) = true := sh_nest (fun x hx1 y hy1 => cmp_lay x (hx x hx1) y (hx y hy1)) fun _ _ => Nat.zero_le _
  have heq : (!PyData.eqv (toPy (ordC xs)) (toPy (ordC xs))) = false := by rw [eqv_self hnp]; rfl
  refine run_if (trx_cmp_ (ev_name (by (repeat (first | exact lookup_hd | refine lookup_tl (by decide +kernel) ?_))) (by decide +kernel) (by decide +kernel)) (ev_conv ?_ (show _ = ordC xs from rfl)) rfl (op_neD hnp hnp hsh hsh)) (fun h' => by rw [heq] at h'; cases h') (fun _ => ?_)
  · refine ev_square hl [("drawn", .list (natsC xs))] [] (ev_name (by (repeat (first | exact lookup_hd | refine lookup_tl (by decide +kernel) ?_))) (by decide +kernel) (by decide +kernel)) (by kernel_rfl) (cap_cons (by (repeat (first | exact lookup_hd | refine lookup_tl (by decide +kernel) ?_))) (by kernel_rfl) cap_nil) (fun C => slot_cellC (by kernel_rfl) (by kernel_rfl)) (fun x => by (repeat (first | exact sub_nil | refine sub_mk (by (repeat (first | exact lookup_hd | refine lookup_tl (by decide +kernel) ?_))) ?_))) (fun C x hx1 => (ev_name (by (repeat (first | exact lookup_hd | refine lookup_tl (by decide +kernel) ?_))) (by decide +kernel) (by decide +kernel))) (fun C => by kernel_rfl) (fun x => cap_cons (by (repeat (first | exact lookup_hd | refine lookup_tl (by decide +kernel) ?_))) (by kernel_rfl) cap_nil) (fun C D => slot_local (by kernel_rfl)) (fun x y => by (repeat (first | exact sub_nil | refine sub_mk (by (repeat (first | exact lookup_hd | refine lookup_tl (by decide +kernel) ?_))) ?_))) (fun C D x y hx1 hy1 => ?_)
    exact ev_if_s (tr_cmp op_gt (ev_name (by (repeat (first | exact lookup_hd | refine lookup_tl (by decide +kernel) ?_))) (by decide +kernel) (by decide +kernel)) (ev_name (by (repeat (first | exact lookup_hd | refine lookup_tl (by decide +kernel) ?_))) (by decide +kernel) (by decide +kernel)) rfl) (fun _ => ev_str) (fun _ => ev_if_s (tr_cmp op_lt (ev_name (by (repeat (first | exact lookup_hd | refine lookup_tl (by decide +kernel) ?_))) (by decide +kernel) (by decide +kernel)) (ev_name (by (repeat (first | exact lookup_hd | refine lookup_tl (by decide +kernel) ?_))) (by decide +kernel) (by decide +kernel)) rfl) (fun _ => ev_str) (fun _ => ev_str))
  -- told
  refine run_step (σ' := [("told", kindsC xs), ("drawn", .list (natsC xs)), ("numbers", .list (iL NS))]) (step_weak (σ₁ := ("told", kindsC xs) :: ("order", ordC xs) :: [("signs", .list (xs.map fun x => .str (letS x))), ("drawn", .list (natsC xs)), ("numbers", .list (iL NS)), ("script", .list (iL ns))]) ?_ (by (repeat (first | exact sub_nil | refine sub_mk (by (repeat (first | exact lookup_hd | refine lookup_tl (by decide +kernel) ?_))) ?_)))) ?_
  · refine (step_setC1 xs (fun x => CV.str (letS x)) (fun x => .list (xs.map fun y => .int (kindS x y))) [("signs", .list (xs.map fun x => .str (letS x)))] (by kernel_rfl) (slot_local (by kernel_rfl)) (by kernel_rfl) (cap_cons (by (repeat (first | exact lookup_hd | refine lookup_tl (by decide +kernel) ?_))) (by kernel_rfl) cap_nil) (src_list (ev_name (by (repeat (first | exact lookup_hd | refine lookup_tl (by decide +kernel) ?_))) (by decide +kernel) (by decide +kernel))) (fun C x hx1 => ?_) (by omega) (fun _ => rfl))
    refine ⟨_, true, bind_name (slot_cellC (by kernel_rfl) (by kernel_rfl)), by (repeat (first | exact sub_nil | refine sub_mk (by (repeat (first | exact lookup_hd | refine lookup_tl (by decide +kernel) ?_))) ?_)), tests_nil, fun _ => emit_last rfl ?_, fun h => nomatch h⟩
    refine ev_comp1 xs (fun x => CV.str (letS x)) (fun y => .int (kindS x y)) [("one", .str (letS x))] (by kernel_rfl) (cap_cons (by (repeat (first | exact lookup_hd | refine lookup_tl (by decide +kernel) ?_))) (by kernel_rfl) cap_nil) (src_list (ev_name (by (repeat (first | exact lookup_hd | refine lookup_tl (by decide +kernel) ?_))) (by decide +kernel) (by decide +kernel))) (fun D y hy1 => ?_) (by omega) (fun _ => rfl)
    refine ⟨_, true, bind_name (slot_local (by kernel_rfl)), by (repeat (first | exact sub_nil | refine sub_mk (by (repeat (first | exact lookup_hd | refine lookup_tl (by decide +kernel) ?_))) ?_)), tests_nil, fun _ => emit_last rfl ?_, fun h => nomatch h⟩
    exact ev_conv (ev_call T.glob (fn_told T (let_mem x (hx x hx1)) (let_mem y (hx y hy1))) (by omega) (evs_cons (ev_name (by (repeat (first | exact lookup_hd | refine lookup_tl (by decide +kernel) ?_))) (by decide +kernel) (by decide +kernel)) (evs_cons (ev_name (by (repeat (first | exact lookup_hd | refine lookup_tl (by decide +kernel) ?_))) (by decide +kernel) (by decide +kernel)) evs_nil rfl) rfl) rfl (by kernel_rfl) (by decide +kernel)) (congrArg CV.int (told_fact x (hx x hx1) y (hx y hy1)))
  -- kinds
  refine run_step (σ' := [("kinds", kindsC xs), ("told", kindsC xs), ("numbers", .list (iL NS))]) (step_weak (σ₁ := ("kinds", kindsC xs) :: [("told", kindsC xs), ("drawn", .list (natsC xs)), ("numbers", .list (iL NS))]) ?_ (by (repeat (first | exact sub_nil | refine sub_mk (by (repeat (first | exact lookup_hd | refine lookup_tl (by decide +kernel) ?_))) ?_)))) ?_
  · refine (step_setC1 xs (fun (x : Nat) => CV.int x) (fun x => .list (xs.map fun y => .int (kindS x y))) [("drawn", .list (natsC xs))] (by kernel_rfl) (slot_local (by kernel_rfl)) (by kernel_rfl) (cap_cons (by (repeat (first | exact lookup_hd | refine lookup_tl (by decide +kernel) ?_))) (by kernel_rfl) cap_nil) (src_list (ev_name (by (repeat (first | exact lookup_hd | refine lookup_tl (by decide +kernel) ?_))) (by decide +kernel) (by decide +kernel))) (fun C x hx1 => ?_) (by omega) (fun _ => rfl))
    refine ⟨_, true, bind_name (slot_cellC (by kernel_rfl) (by kernel_rfl)), by (repeat (first | exact sub_nil | refine sub_mk (by (repeat (first | exact lookup_hd | refine lookup_tl (by decide +kernel) ?_))) ?_)), tests_nil, fun _ => emit_last rfl ?_, fun h => nomatch h⟩
    refine ev_comp1 xs (fun (x : Nat) => CV.int x) (fun y => .int (kindS x y)) [("x", .int x)] (by kernel_rfl) (cap_cons (by (repeat (first | exact lookup_hd | refine lookup_tl (by decide +kernel) ?_))) (by kernel_rfl) cap_nil) (src_list (ev_name (by (repeat (first | exact lookup_hd | refine lookup_tl (by decide +kernel) ?_))) (by decide +kernel) (by decide +kernel))) (fun D y hy1 => ?_) (by omega) (fun _ => rfl)
    refine ⟨_, true, bind_name (slot_local (by kernel_rfl)), by (repeat (first | exact sub_nil | refine sub_mk (by (repeat (first | exact lookup_hd | refine lookup_tl (by decide +kernel) ?_))) ?_)), tests_nil, fun _ => emit_last rfl ?_, fun h => nomatch h⟩
    exact ev_call T.glob (fn_kind T (hx x hx1) (hx y hy1)) (by omega) (evs_cons (ev_name (by (repeat (first | exact lookup_hd | refine lookup_tl (by decide +kernel) ?_))) (by decide +kernel) (by decide +kernel)) (evs_cons (ev_name (by (repeat (first | exact lookup_hd | refine lookup_tl (by decide +kernel) ?_))) (by decide +kernel) (by decide +kernel)) evs_nil rfl) rfl) rfl (by kernel_rfl) (by decide +kernel)
  have hnp2 : (kindsC xs).np = true := np_nest fun x hx1 y hy1 => rfl
  have hsh2 : SeqAt.shaped (toPy (kindsC xs)) = true := sh_nest (fun x hx1 y hy1 => rfl) fun _ _ => Nat.zero_le _
  have heq2 : (!PyData.eqv (toPy (kindsC xs)) (toPy (kindsC xs))) = false := by rw [eqv_self hnp2]; rfl
  exact run_if (trx_cmp_ (ev_name (by (repeat (first | exact lookup_hd | refine lookup_tl (by decide +kernel) ?_))) (by decide +kernel) (by decide +kernel)) (ev_name (by (repeat (first | exact lookup_hd | refine lookup_tl (by decide +kernel) ?_))) (by decide +kernel) (by decide +kernel)) rfl (op_neD hnp2 hnp2 hsh2 hsh2)) (fun h' => by rw [heq2] at h'; cases h') (fun _ => h)
end
end Mine

namespace Mine
open PySem PySem.W PySem.Calls PyProof.Rows

theorem bit_one (i : Int) : Builtin.bitAnd i 1 = i.fmod 2 := by
  rw [Int.fmod_eq_emod_of_nonneg _ (by omega)]
  by_cases h : 0 ≤ i
  · rw [PyProof.Rows.bitAnd_pp h (by omega)]
    have e : i.toNat &&& (1 : Int).toNat = i.toNat % 2 := Nat.and_one_is_mod _
    rw [e]; omega
  · rw [PyProof.Rows.bitAnd_np h (by omega)]
    have e : (1 : Int).toNat &&& (Builtin.bitNot i).toNat = (Builtin.bitNot i).toNat % 2 := by
      rw [Nat.and_comm]; exact Nat.and_one_is_mod _
    rw [e]
    have hb : Builtin.bitNot i = -i - 1 := by unfold Builtin.bitNot; omega
    rw [hb]; omega
theorem kind_fact : ∀ x, x < 8 → ∀ y, y < 8 → 0 ≤ kindS x y ∧ kindS x y ≤ 7 := by decide +kernel

/-- the matrix that the law reads off -/
noncomputable def bitW (n : Int) (k : Int) : Int := Builtin.bitAnd (n.fdiv (2 ^ k.toNat)) 1
noncomputable def wrongOf (n : Int) (xs : List Nat) : Mat := xs.map fun x => xs.map fun y => bitW n (kindS x y)
theorem bitW_two (n k : Int) : bitW n k = 0 ∨ bitW n k = 1 := by
  unfold bitW
  rw [bit_one]
  have h1 : 0 ≤ (n.fdiv (2 ^ k.toNat)).fmod 2 := Int.fmod_nonneg_of_pos _ (by omega)
  have h2 : (n.fdiv (2 ^ k.toNat)).fmod 2 < 2 := Int.fmod_lt_of_pos _ (by omega)
  omega
/-- three rows of three noughts and ones -/
structure Bits (W : Mat) : Prop where
  len : W.length = 3
  rows : ∀ r ∈ W, r.length = 3 ∧ ∀ b ∈ r, b = 0 ∨ b = 1
theorem wrongOf_bits {n : Int} {xs : List Nat} (h : xs.length = 3) : Bits (wrongOf n xs) where
  len := by unfold wrongOf; rw [List.length_map, h]
  rows := by
    intro r hr
    obtain ⟨x, _, rfl⟩ := List.mem_map.mp hr
    refine ⟨by rw [List.length_map, h], fun b hb => ?_⟩
    obtain ⟨y, _, rfl⟩ := List.mem_map.mp hb
    exact bitW_two _ _
theorem Bits.ok {W : Mat} (h : Bits W) : MatOk W where
  len := h.len
  row := fun i hi => by
    have hi' : i < W.length := by rw [h.len]; exact hi
    rw [List.getD_eq_getElem?_getD, List.getElem?_eq_getElem hi']
    exact (h.rows _ (List.getElem_mem hi')).1
  bit := fun i j hi hj => by
    have hi' : i < W.length := by rw [h.len]; exact hi
    have hr := h.rows _ (List.getElem_mem hi')
    have hj' : j < W[i].length := by rw [hr.1]; exact hj
    have e : W.at i j = W[i][j] := by
      unfold Mat.at
      rw [List.getD_eq_getElem?_getD (l := W), List.getElem?_eq_getElem hi']
      show (W[i]).getD j 0 = _
      rw [List.getD_eq_getElem?_getD, List.getElem?_eq_getElem hj']; rfl
    rw [e]
    rcases hr.2 _ (List.getElem_mem hj') with q | q <;> rw [q] <;> rfl

noncomputable def threesL : List (List Nat) := (List.range 3).flatMap fun x => (List.range 3).flatMap fun y => (List.range 3).flatMap fun z => [[x, y, z]]
theorem threes_row : ∀ r ∈ threesL, r.length = 3 ∧ ∀ x ∈ r, x < 3 := by decide +kernel
noncomputable def keyS (r : List Nat) : Int := (r.map fun (x : Nat) => (4 : Int) ^ (x : Int).toNat).sum
noncomputable def pairsP (W : Mat) : List (Int × Int) := threesL.map fun r => (keyS r, pairsS W r)
noncomputable def stepsP (W : Mat) : List (Int × Int) := threesL.map fun r => (keyS r, stepsS W r)
noncomputable def keptT (W : Mat) (r : List Nat) : Bool := W.at (r.getD 0 0) (r.getD 1 0) == W.at (r.getD 1 0) (r.getD 2 0)
noncomputable def keptV (W : Mat) (r : List Nat) : Bool := W.at (r.getD 0 0) (r.getD 2 0) == W.at (r.getD 0 0) (r.getD 1 0)
noncomputable def keptL (W : Mat) : List Bool := (threesL.filter (keptT W)).map (keptV W)

theorem eqv_pairs : ∀ l m : List (Int × Int), PyData.eqvAll (toPys (l.map tupP)) (toPys (m.map tupP)) = (l == m)
  | [], [] => rfl
  | [], _ :: _ => rfl
  | _ :: _, [] => rfl
  | (a, b) :: l, (c, d) :: m => by
    show (PyData.eqv (.tuple [.int a, .int b]) (.tuple [.int c, .int d]) && PyData.eqvAll (toPys (l.map tupP)) (toPys (m.map tupP))) = _
    rw [eqv_pairs l m]
    have e : PyData.eqv (.tuple [.int a, .int b]) (.tuple [.int c, .int d]) = ((a, b) == (c, d)) := by
      simp [PyData.eqv, PyData.eqvAll]
      rfl
    rw [e]; rfl
theorem eqv_ints : ∀ l m : List Int, PyData.eqvAll (toPys (iL l)) (toPys (iL m)) = (l == m)
  | [], [] => rfl
  | [], _ :: _ => rfl
  | _ :: _, [] => rfl
  | a :: l, c :: m => by
    show (PyData.eqv (.int a) (.int c) && PyData.eqvAll (toPys (iL l)) (toPys (iL m))) = _
    rw [eqv_ints l m]; rfl
theorem any_false : ∀ l : List Bool, ((toPys (l.map CV.bool)).any fun y => PyData.eqv y (toPy (.bool false))) = l.any (· == false)
  | [] => rfl
  | b :: l => by
    show (PyData.eqv (.bool b) (.bool false) || (toPys (l.map CV.bool)).any fun y => PyData.eqv y (toPy (.bool false))) = _
    rw [any_false l]; rfl
end Mine

namespace Mine
open PySem PySem.W PySem.Calls PyProof.Rows

section
variable {prog : Program} {w : World} {hB : Heap} {k : Nat} {env : Env} {σ : Sig} {mg mb : Str → Option Value}

theorem ev_sortP {p pos : Pos} {e : Expr} {l : List (Int × Int)} (T : Top prog w hB mg mb) (h2 : 2 ≤ l.length) (h64 : l.length < 64) (h : Ev prog w hB k env σ e (.list (l.map tupP))) (hk : 1 ≤ k) (hs : isStarred e = false) (hx : env.kindOf "sorted" = some .globalImplicit) :
    Ev prog w hB k env σ (.Call (.Name "sorted" p) [e] [] pos) (.list ((sortP l).map tupP)) :=
  ev_bi (fv := .builtin "sorted") T.glob (bi_sortedP h2 h64) (T.free _ (by decide +kernel)) (by kernel_rfl) rfl (evs_cons h evs_nil hs) hk (by simp [hs]) hx (by decide +kernel) (by decide +kernel)
theorem ev_sortI {p pos : Pos} {e : Expr} {l : List Int} (T : Top prog w hB mg mb) (h64 : l.length < 64) (h : Ev prog w hB k env σ e (.list (iL l))) (hk : 1 ≤ k) (hs : isStarred e = false) (hx : env.kindOf "sorted" = some .globalImplicit) :
    Ev prog w hB k env σ (.Call (.Name "sorted" p) [e] [] pos) (.list (iL (sortI l))) :=
  ev_bi (fv := .builtin "sorted") T.glob (bi_sorted h64) (T.free _ (by decide +kernel)) (by kernel_rfl) rfl (evs_cons h evs_nil hs) hk (by simp [hs]) hx (by decide +kernel) (by decide +kernel)
theorem step_setW {x : Str} {p pos : Pos} {e : Expr} {c : CV} {τ : Sig} (h : Ev prog w hB k env σ e c) (hs : ∃ a, Slot env x a) (hsw : swapsWith e (some (.Name x p)) pos.line env = pure false) (hτ : Sub τ ((x, c) :: σ)) : Step1 prog w hB k env σ (.Assign [.Name x p] e pos) τ :=
  step_weak (step_set h hs hsw) hτ

theorem pow_small {x : Int} (h0 : 0 ≤ x) (h7 : x ≤ 7) : ((2 : Int) ^ x.toNat).natAbs < 1000000 ∧ (2 : Int) ^ x.toNat ≠ 0 := by
  have : ∀ n, n < 8 → ((2 : Int) ^ n).natAbs < 1000000 ∧ (2 : Int) ^ n ≠ 0 := by decide
  exact this x.toNat (by omega)

theorem wrong_np {W : Mat} : (matC W).np = true := nps_map fun _ _ => nps_map fun _ _ => rfl
theorem wrong_sh {W : Mat} : SeqAt.shaped (toPy (matC W)) = true := shaped_of wrong_np (Nat.le_trans (depth_list (d := 1) (depths_map fun _ _ => depth_list (depths_map fun _ _ => Nat.zero_le _))) (by omega))

theorem toPys_map {α : Type} {f : α → CV} {g : α → CV} : ∀ {l : List α}, (∀ a ∈ l, toPy (f a) = toPy (g a)) → toPys (l.map f) = toPys (l.map g)
  | [], _ => rfl
  | a :: r, h => by
    show toPy (f a) :: toPys (r.map f) = toPy (g a) :: toPys (r.map g)
    rw [h a List.mem_cons_self, toPys_map fun x hx => h x (List.mem_cons_of_mem _ hx)]
theorem toPy_mat (n : Int) (xs : List Nat) : toPy (.list (xs.map fun x => .list (xs.map fun y => .int (bitW n (kindS x y))))) = toPy (matC (wrongOf n xs)) := by
  unfold matC wrongOf rowC
  rw [List.map_map]
  show PyData.list (toPys _) = PyData.list (toPys _)
  congr 1
  refine toPys_map fun x _ => ?_
  show toPy _ = toPy (CV.list (List.map CV.tint (xs.map fun y => bitW n (kindS x y))))
  rw [List.map_map]
  show PyData.list (toPys _) = PyData.list (toPys _)
  congr 1
  exact toPys_map fun y _ => rfl
theorem run_sub {body : List Stmt} {c : CV} {τ : Sig} (h : Run prog w hB k env τ body c) (hs : Sub τ σ) : Run prog w hB k env σ body c := by
  refine ⟨?_⟩
  intro X A E s hr ok
  exact h.run X A E s hr (ok.sub hs)
theorem law_p3 (T : Top prog w hB mg mb) {L a : Addr} {cd : Value} {NS : List Int} {xs : List Nat} (h5 : NS.length = 5) (hl : xs.length = 3) (hx : ∀ x ∈ xs, x < 8) {c : CV}
    (h : Run prog w hB 6 (envF (defAt 25) L a cd) [("wrong", matC (wrongOf (NS.getD 3 0) xs)), ("numbers", .list (iL NS))] ((defAt 25).body.drop 11) c) :
    Run prog w hB 6 (envF (defAt 25) L a cd) [("kinds", kindsC xs), ("told", kindsC xs), ("numbers", .list (iL NS))] ((defAt 25).body.drop 9) c := by
  have hk : ∀ x ∈ xs, ∀ y ∈ xs, 0 ≤ kindS x y ∧ kindS x y ≤ 7 := fun x hx1 y hy1 => kind_fact x (hx x hx1) y (hx y hy1)
  -- wrong
  refine run_step (σ' := [("wrong", matC (wrongOf (NS.getD 3 0) xs)), ("kinds", kindsC xs), ("numbers", .list (iL NS))]) (step_setW (c := matC (wrongOf (NS.getD 3 0) xs)) ?_ (slot_cell (by kernel_rfl)) (by kernel_rfl) (by (repeat (first | exact sub_nil | refine sub_mk (by (repeat (first | exact lookup_hd | refine lookup_tl (by decide +kernel) ?_))) ?_)))) ?_
  · refine ev_conv (ev_comp1 xs (fun x => .list (xs.map fun y => .int (kindS x y))) (fun x => .list (xs.map fun y => .tint (bitW (NS.getD 3 0) (kindS x y)))) [("numbers", .list (iL NS))] (by kernel_rfl) (cap_cons (by (repeat (first | exact lookup_hd | refine lookup_tl (by decide +kernel) ?_))) (by kernel_rfl) cap_nil) (src_list (ev_name (by (repeat (first | exact lookup_hd | refine lookup_tl (by decide +kernel) ?_))) (by decide +kernel) (by decide +kernel))) (fun C x hx1 => ?_) (by omega) (fun _ => rfl)) (by unfold matC wrongOf rowC; rw [List.map_map]; congr 1; refine List.map_congr_left fun x _ => ?_; show _ = CV.list (((xs.map _)).map CV.tint); rw [List.map_map]; rfl)
    refine ⟨_, true, bind_name (slot_local (by kernel_rfl)), by (repeat (first | exact sub_nil | refine sub_mk (by (repeat (first | exact lookup_hd | refine lookup_tl (by decide +kernel) ?_))) ?_)), tests_nil, fun _ => emit_last rfl ?_, fun h => nomatch h⟩
    refine ev_comp1 xs (fun y => .int (kindS x y)) (fun y => .tint (bitW (NS.getD 3 0) (kindS x y))) [("numbers", .list (iL NS))] (by kernel_rfl) (cap_cons (by (repeat (first | exact lookup_hd | refine lookup_tl (by decide +kernel) ?_))) (by kernel_rfl) cap_nil) (src_list (ev_name (by (repeat (first | exact lookup_hd | refine lookup_tl (by decide +kernel) ?_))) (by decide +kernel) (by decide +kernel))) (fun D y hy1 => ?_) (by omega) (fun _ => rfl)
    refine ⟨_, true, bind_name (slot_local (by kernel_rfl)), by (repeat (first | exact sub_nil | refine sub_mk (by (repeat (first | exact lookup_hd | refine lookup_tl (by decide +kernel) ?_))) ?_)), tests_nil, fun _ => emit_last rfl ?_, fun h => nomatch h⟩
    exact ev_call T.glob (fn_and T.defs T.glob) (by omega) (evs_cons (ev_call T.glob (fn_rshift T.defs T.glob (hk x hx1 y hy1).1) (by omega) (evs_cons (ev_sub (item_ints (ns := NS) (i := 3) (by omega) (by omega)) (ev_name (by (repeat (first | exact lookup_hd | refine lookup_tl (by decide +kernel) ?_))) (by decide +kernel) (by decide +kernel)) ev_int (fun _ _ => ⟨_, rfl⟩)) (evs_cons (ev_name (by (repeat (first | exact lookup_hd | refine lookup_tl (by decide +kernel) ?_))) (by decide +kernel) (by decide +kernel)) evs_nil rfl) rfl) rfl (by kernel_rfl) (by decide +kernel)) (evs_cons ev_int evs_nil rfl) rfl) rfl (by kernel_rfl) (by decide +kernel)
  -- if wrong != ...
  have hR : toPy (.list (xs.map fun x => .list (xs.map fun y => .int (bitW (NS.getD 3 0) (kindS x y))))) = toPy (matC (wrongOf (NS.getD 3 0) xs)) := toPy_mat _ _
  have heq : (!PyData.eqv (toPy (matC (wrongOf (NS.getD 3 0) xs))) (toPy (.list (xs.map fun x => .list (xs.map fun y => .int (bitW (NS.getD 3 0) (kindS x y))))))) = false := by rw [hR, eqv_self wrong_np]; rfl
  refine run_if (trx_cmp_ (ev_name (by (repeat (first | exact lookup_hd | refine lookup_tl (by decide +kernel) ?_))) (by decide +kernel) (by decide +kernel)) (c := matC (wrongOf (NS.getD 3 0) xs)) (d := .list (xs.map fun x => .list (xs.map fun y => .int (bitW (NS.getD 3 0) (kindS x y))))) ?_ rfl (op_neD wrong_np (np_nest fun _ _ _ _ => rfl) wrong_sh (sh_nest (fun _ _ _ _ => rfl) fun _ _ => Nat.zero_le _))) (fun h' => by rw [heq] at h'; cases h') (fun _ => ?_)
  · refine ev_comp1 xs (fun x => .list (xs.map fun y => .int (kindS x y))) (fun x => .list (xs.map fun y => .int (bitW (NS.getD 3 0) (kindS x y)))) [("numbers", .list (iL NS))] (by kernel_rfl) (cap_cons (by (repeat (first | exact lookup_hd | refine lookup_tl (by decide +kernel) ?_))) (by kernel_rfl) cap_nil) (src_list (ev_name (by (repeat (first | exact lookup_hd | refine lookup_tl (by decide +kernel) ?_))) (by decide +kernel) (by decide +kernel))) (fun C x hx1 => ?_) (by omega) (fun _ => rfl)
    refine ⟨_, true, bind_name (slot_local (by kernel_rfl)), by (repeat (first | exact sub_nil | refine sub_mk (by (repeat (first | exact lookup_hd | refine lookup_tl (by decide +kernel) ?_))) ?_)), tests_nil, fun _ => emit_last rfl ?_, fun h => nomatch h⟩
    refine ev_comp1 xs (fun y => .int (kindS x y)) (fun y => .int (bitW (NS.getD 3 0) (kindS x y))) [("numbers", .list (iL NS))] (by kernel_rfl) (cap_cons (by (repeat (first | exact lookup_hd | refine lookup_tl (by decide +kernel) ?_))) (by kernel_rfl) cap_nil) (src_list (ev_name (by (repeat (first | exact lookup_hd | refine lookup_tl (by decide +kernel) ?_))) (by decide +kernel) (by decide +kernel))) (fun D y hy1 => ?_) (by omega) (fun _ => rfl)
    refine ⟨_, true, bind_name (slot_local (by kernel_rfl)), by (repeat (first | exact sub_nil | refine sub_mk (by (repeat (first | exact lookup_hd | refine lookup_tl (by decide +kernel) ?_))) ?_)), tests_nil, fun _ => emit_last rfl ?_, fun h => nomatch h⟩
    obtain ⟨q1, q2⟩ := hk x hx1 y hy1
    obtain ⟨q3, q4⟩ := pow_small q1 q2
    exact ev_conv (ev_bin (op_mod (by decide)) (ev_bin (op_fdiv q4 (npl q3)) (ev_sub (item_ints (ns := NS) (i := 3) (by omega) (by omega)) (ev_name (by (repeat (first | exact lookup_hd | refine lookup_tl (by decide +kernel) ?_))) (by decide +kernel) (by decide +kernel)) ev_int (fun _ _ => ⟨_, rfl⟩)) (ev_bin (op_pow q1 (by omega) (by omega)) ev_int (ev_name (by (repeat (first | exact lookup_hd | refine lookup_tl (by decide +kernel) ?_))) (by decide +kernel) (by decide +kernel)))) ev_int) (congrArg CV.int (bit_one _).symm)
  exact run_sub h (by (repeat (first | exact sub_nil | refine sub_mk (by (repeat (first | exact lookup_hd | refine lookup_tl (by decide +kernel) ?_))) ?_)))
end
end Mine

namespace Mine
open PySem PySem.W PySem.Calls PyProof.Rows

section
variable {prog : Program} {w : World} {hB : Heap} {k : Nat} {env : Env} {σ : Sig} {mg mb : Str → Option Value}

noncomputable def bip (W : Mat) : Bool := !((keptL W).any (· == false))
theorem lenP (W : Mat) : (pairsP W).length = 27 := by
  have e : threesL.length = 27 := by decide +kernel
  unfold pairsP; rw [List.length_map, e]
theorem lenS (W : Mat) : (stepsP W).length = 27 := by
  have e : threesL.length = 27 := by decide +kernel
  unfold stepsP; rw [List.length_map, e]
theorem tups_np (l : List (Int × Int)) : (CV.list (l.map tupP)).np = true := nps_map fun _ _ => rfl
theorem tups_sh (l : List (Int × Int)) : SeqAt.shaped (toPy (.list (l.map tupP))) = true := shaped_of (tups_np l) (Nat.le_trans (depth_list (d := 1) (depths_map fun _ _ => by show (1 : Nat) ≤ 1; omega)) (by omega))

theorem np_bool (b : Bool) : (CV.bool b).np = true := rfl
theorem sh_bool (b : Bool) : SeqAt.shaped (toPy (CV.bool b)) = true := shaped_of (np_bool b) (Nat.zero_le _)
theorem trx_conv {e : Expr} {b b' : Bool} (h : Tr prog w hB k env σ e b) (e1 : b = b') : Tr prog w hB k env σ e b' := e1 ▸ h
theorem law_p4b {L a : Addr} {cd : Value} {NS : List Int} {W : Mat} (lp ls : List (Int × Int)) (kl : List Bool) (hfact : (lp == ls) = !(kl.any (· == false)))
    (h : (!(kl.any (· == false))) = true → Run prog w hB 6 (envF (defAt 25) L a cd) [("wrong", matC W), ("numbers", .list (iL NS))] ((defAt 25).body.drop 17) (.bool true)) :
    Run prog w hB 6 (envF (defAt 25) L a cd) [("kept", .list (kl.map CV.bool)), ("steps", .list (ls.map tupP)), ("pairs", .list (lp.map tupP)), ("wrong", matC W), ("numbers", .list (iL NS))] ((defAt 25).body.drop 15) (.bool true) := by
  have hb1 : PyData.eqv (toPy (.list (lp.map tupP))) (toPy (.list (ls.map tupP))) = !(kl.any (· == false)) := (eqv_pairs _ _).trans hfact
  have hb2 : (!((toPys (kl.map CV.bool)).any fun y => PyData.eqv y (toPy (.bool false)))) = !(kl.any (· == false)) := by rw [any_false]
  have hb3 : ((toPys (kl.map CV.bool)).any fun y => PyData.eqv y (toPy (.bool false))) = !(!(kl.any (· == false))) := by rw [any_false, Bool.not_not]
  have hnk : CV.nps (kl.map CV.bool) = true := nps_map fun _ _ => rfl
  have hck := canLays_toPys _ hnk
  have hdk : PyData.depthAll (toPys (kl.map CV.bool)) ≤ 50 := depths_map fun _ _ => Nat.zero_le _
  generalize (!(kl.any (· == false))) = b at hb1 hb2 hb3 h
  have e1 : OpX prog w hB (compareOp .Eq) (.list (lp.map tupP)) (.list (ls.map tupP)) (.bool b) := hb1 ▸ op_eqD (tups_np lp) (tups_np ls) (tups_sh lp) (tups_sh ls)
  have e2 : OpX prog w hB (compareOp .NotIn) (.bool false) (.list (kl.map CV.bool)) (.bool b) := hb2 ▸ op_notInL (c := .bool false) (np_bool _) hnk rfl hck hdk
  have e3 : OpX prog w hB (compareOp .In) (.bool false) (.list (kl.map CV.bool)) (.bool (!b)) := hb3 ▸ op_inL (c := .bool false) (np_bool _) hnk rfl hck hdk
  have hself : (!PyData.eqv (toPy (.bool b)) (toPy (.bool b))) = false := by rw [eqv_self (np_bool _)]; rfl
  have e4 : OpX prog w hB (compareOp .NotEq) (.bool b) (.bool b) (.bool false) := hself ▸ op_neD (np_bool b) (np_bool b) (sh_bool b) (sh_bool b)
  refine run_if (trx_cmp_ (evx_cmp_ (ev_name (by (repeat (first | exact lookup_hd | refine lookup_tl (by decide +kernel) ?_))) (by decide +kernel) (by decide +kernel)) (ev_name (by (repeat (first | exact lookup_hd | refine lookup_tl (by decide +kernel) ?_))) (by decide +kernel) (by decide +kernel)) rfl e1) (evx_cmp_ ev_bool (ev_name (by (repeat (first | exact lookup_hd | refine lookup_tl (by decide +kernel) ?_))) (by decide +kernel) (by decide +kernel)) rfl e2) rfl e4) (fun h' => by cases h') (fun _ => ?_)
  refine run_if (trx_cmp_ ev_bool (ev_name (by (repeat (first | exact lookup_hd | refine lookup_tl (by decide +kernel) ?_))) (by decide +kernel) (by decide +kernel)) rfl e3) (fun _ => run_ret ev_bool) (fun h' => ?_)
  exact run_sub (h (by simpa using h')) (by (repeat (first | exact sub_nil | refine sub_mk (by (repeat (first | exact lookup_hd | refine lookup_tl (by decide +kernel) ?_))) ?_)))
theorem law_p4 (T : Top prog w hB mg mb) {L a : Addr} {cd : Value} {NS : List Int} {W : Mat} (hW : MatOk W) (hfact : (sortP (pairsP W) == sortP (stepsP W)) = bip W)
    (h : bip W = true → Run prog w hB 6 (envF (defAt 25) L a cd) [("wrong", matC W), ("numbers", .list (iL NS))] ((defAt 25).body.drop 17) (.bool true)) :
    Run prog w hB 6 (envF (defAt 25) L a cd) [("wrong", matC W), ("numbers", .list (iL NS))] ((defAt 25).body.drop 11) (.bool true) := by
  -- threes
  have ht : threesL.map (fun r => CV.list (natsC r)) = (List.range 3).flatMap fun x => (List.range 3).flatMap fun y => (List.range 3).flatMap fun z => [CV.list (natsC [x, y, z])] := by kernel_rfl
  refine run_step (σ' := [("threes", rowsC threesL), ("wrong", matC W), ("numbers", .list (iL NS))]) (step_conv (step_setC (List.range 3) (fun (x : Nat) => CV.int x) (fun x => (List.range 3).flatMap fun y => (List.range 3).flatMap fun z => [CV.list (natsC [x, y, z])]) [] (by kernel_rfl) (slot_local (by kernel_rfl)) (by kernel_rfl) cap_nil (src_rangeN (n := 3) T ev_int (by omega) rfl (by kernel_rfl)) (fun C x hx => ?_) (by decide +kernel) (fun _ => rfl)) (by rw [← ht]; unfold rowsC; rfl)) ?_
  · refine ⟨_, true, bind_name (slot_local (by kernel_rfl)), by (repeat (first | exact sub_nil | refine sub_mk (by (repeat (first | exact lookup_hd | refine lookup_tl (by decide +kernel) ?_))) ?_)), tests_nil, fun _ => ?_, fun h => nomatch h⟩
    refine emit_next (List.range 3) (fun (x : Nat) => CV.int x) _ rfl (src_rangeN (n := 3) T ev_int (by omega) rfl (by kernel_rfl)) (fun y hy => ?_) (fun _ => rfl)
    refine ⟨_, true, bind_name (slot_local (by kernel_rfl)), by (repeat (first | exact sub_nil | refine sub_mk (by (repeat (first | exact lookup_hd | refine lookup_tl (by decide +kernel) ?_))) ?_)), tests_nil, fun _ => ?_, fun h => nomatch h⟩
    refine emit_next (List.range 3) (fun (x : Nat) => CV.int x) _ rfl (src_rangeN (n := 3) T ev_int (by omega) rfl (by kernel_rfl)) (fun z hz => ?_) (fun _ => rfl)
    exact ⟨_, true, bind_name (slot_local (by kernel_rfl)), by (repeat (first | exact sub_nil | refine sub_mk (by (repeat (first | exact lookup_hd | refine lookup_tl (by decide +kernel) ?_))) ?_)), tests_nil, fun _ => emit_last rfl (ev_list (evs_cons (ev_name (by (repeat (first | exact lookup_hd | refine lookup_tl (by decide +kernel) ?_))) (by decide +kernel) (by decide +kernel)) (evs_cons (ev_name (by (repeat (first | exact lookup_hd | refine lookup_tl (by decide +kernel) ?_))) (by decide +kernel) (by decide +kernel)) (evs_cons (ev_name (by (repeat (first | exact lookup_hd | refine lookup_tl (by decide +kernel) ?_))) (by decide +kernel) (by decide +kernel)) evs_nil rfl) rfl) rfl) (size_ok (by simp [natsC]))), fun h => nomatch h⟩
  have hlen3 : threesL.length ≤ 1000 := by decide +kernel
  -- pairs
  refine run_step (σ' := [("pairs", .list ((sortP (pairsP W)).map tupP)), ("threes", rowsC threesL), ("wrong", matC W), ("numbers", .list (iL NS))]) (step_set (ev_sortP T (by rw [lenP]; omega) (by rw [lenP]; omega) (ev_conv (ev_comp1 threesL (fun r => .list (natsC r)) (fun r => tupP (keyS r, pairsS W r)) [("wrong", matC W)] (by kernel_rfl) (cap_cons (by (repeat (first | exact lookup_hd | refine lookup_tl (by decide +kernel) ?_))) (by kernel_rfl) cap_nil) (src_list (ev_name (by (repeat (first | exact lookup_hd | refine lookup_tl (by decide +kernel) ?_))) (by decide +kernel) (by decide +kernel))) (fun C r hr => ?_) hlen3 (fun _ => rfl)) (by unfold pairsP; rw [List.map_map]; rfl)) (by omega) rfl (by kernel_rfl)) (slot_local (by kernel_rfl)) (by kernel_rfl)) ?_
  · obtain ⟨hr1, hr3⟩ := threes_row r hr
    refine ⟨_, true, bind_name (slot_local (by kernel_rfl)), by (repeat (first | exact sub_nil | refine sub_mk (by (repeat (first | exact lookup_hd | refine lookup_tl (by decide +kernel) ?_))) ?_)), tests_nil, fun _ => emit_last rfl ?_, fun h => nomatch h⟩
    refine ev_tup (cs := [.int (keyS r), .int (pairsS W r)]) (evs_cons ?_ (evs_cons (ev_call T.glob (fn_pairs T hW hr3 (by omega)) (by omega) (evs_cons (ev_name (by (repeat (first | exact lookup_hd | refine lookup_tl (by decide +kernel) ?_))) (by decide +kernel) (by decide +kernel)) (evs_cons (ev_name (by (repeat (first | exact lookup_hd | refine lookup_tl (by decide +kernel) ?_))) (by decide +kernel) (by decide +kernel)) evs_nil rfl) rfl) rfl (by kernel_rfl) (by decide +kernel)) evs_nil rfl) rfl) (size_ok (by simp))
    refine ev_sumI (ns := r.map fun (x : Nat) => (4 : Int) ^ (x : Int).toNat) T (ev_ilist (ev_comp1 r (fun (x : Nat) => CV.int x) (fun x => .int ((4 : Int) ^ (x : Int).toNat)) [] (by kernel_rfl) cap_nil (src_list (ev_name (by (repeat (first | exact lookup_hd | refine lookup_tl (by decide +kernel) ?_))) (by decide +kernel) (by decide +kernel))) (fun D x hx => ?_) (by omega) (fun _ => rfl)) (by unfold iL; rw [List.map_map]; rfl)) (by omega) rfl (by kernel_rfl)
    have hx3 := hr3 x hx
    exact ⟨_, true, bind_name (slot_local (by kernel_rfl)), by (repeat (first | exact sub_nil | refine sub_mk (by (repeat (first | exact lookup_hd | refine lookup_tl (by decide +kernel) ?_))) ?_)), tests_nil, fun _ => emit_last rfl (ev_bin (op_pow (by omega) (by omega) (by omega)) ev_int (ev_name (by (repeat (first | exact lookup_hd | refine lookup_tl (by decide +kernel) ?_))) (by decide +kernel) (by decide +kernel))), fun h => nomatch h⟩
  -- steps
  refine run_step (σ' := [("steps", .list ((sortP (stepsP W)).map tupP)), ("pairs", .list ((sortP (pairsP W)).map tupP)), ("threes", rowsC threesL), ("wrong", matC W), ("numbers", .list (iL NS))]) (step_set (ev_sortP T (by rw [lenS]; omega) (by rw [lenS]; omega) (ev_conv (ev_comp1 threesL (fun r => .list (natsC r)) (fun r => tupP (keyS r, stepsS W r)) [("wrong", matC W)] (by kernel_rfl) (cap_cons (by (repeat (first | exact lookup_hd | refine lookup_tl (by decide +kernel) ?_))) (by kernel_rfl) cap_nil) (src_list (ev_name (by (repeat (first | exact lookup_hd | refine lookup_tl (by decide +kernel) ?_))) (by decide +kernel) (by decide +kernel))) (fun C r hr => ?_) hlen3 (fun _ => rfl)) (by unfold stepsP; rw [List.map_map]; rfl)) (by omega) rfl (by kernel_rfl)) (slot_local (by kernel_rfl)) (by kernel_rfl)) ?_
  · obtain ⟨hr1, hr3⟩ := threes_row r hr
    refine ⟨_, true, bind_name (slot_local (by kernel_rfl)), by (repeat (first | exact sub_nil | refine sub_mk (by (repeat (first | exact lookup_hd | refine lookup_tl (by decide +kernel) ?_))) ?_)), tests_nil, fun _ => emit_last rfl ?_, fun h => nomatch h⟩
    refine ev_tup (cs := [.int (keyS r), .int (stepsS W r)]) (evs_cons ?_ (evs_cons (ev_call T.glob (fn_steps T hW hr3 (by omega)) (by omega) (evs_cons (ev_name (by (repeat (first | exact lookup_hd | refine lookup_tl (by decide +kernel) ?_))) (by decide +kernel) (by decide +kernel)) (evs_cons (ev_name (by (repeat (first | exact lookup_hd | refine lookup_tl (by decide +kernel) ?_))) (by decide +kernel) (by decide +kernel)) evs_nil rfl) rfl) rfl (by kernel_rfl) (by decide +kernel)) evs_nil rfl) rfl) (size_ok (by simp))
    refine ev_sumI (ns := r.map fun (x : Nat) => (4 : Int) ^ (x : Int).toNat) T (ev_ilist (ev_comp1 r (fun (x : Nat) => CV.int x) (fun x => .int ((4 : Int) ^ (x : Int).toNat)) [] (by kernel_rfl) cap_nil (src_list (ev_name (by (repeat (first | exact lookup_hd | refine lookup_tl (by decide +kernel) ?_))) (by decide +kernel) (by decide +kernel))) (fun D x hx => ?_) (by omega) (fun _ => rfl)) (by unfold iL; rw [List.map_map]; rfl)) (by omega) rfl (by kernel_rfl)
    have hx3 := hr3 x hx
    exact ⟨_, true, bind_name (slot_local (by kernel_rfl)), by (repeat (first | exact sub_nil | refine sub_mk (by (repeat (first | exact lookup_hd | refine lookup_tl (by decide +kernel) ?_))) ?_)), tests_nil, fun _ => emit_last rfl (ev_bin (op_pow (by omega) (by omega) (by omega)) ev_int (ev_name (by (repeat (first | exact lookup_hd | refine lookup_tl (by decide +kernel) ?_))) (by decide +kernel) (by decide +kernel))), fun h => nomatch h⟩
  -- kept
  have hkE : (keptL W).map CV.bool = threesL.flatMap fun r => if keptT W r then [CV.bool (keptV W r)] else [] := by
    unfold keptL
    rw [List.map_map]
    generalize threesL = l
    induction l with
    | nil => rfl
    | cons r l ih =>
      rw [List.flatMap_cons, ← ih, List.filter_cons]
      split <;> rfl
  refine run_step (σ' := [("kept", .list ((keptL W).map CV.bool)), ("steps", .list ((sortP (stepsP W)).map tupP)), ("pairs", .list ((sortP (pairsP W)).map tupP)), ("wrong", matC W), ("numbers", .list (iL NS))]) (step_weak (σ₁ := ("kept", .list ((keptL W).map CV.bool)) :: [("steps", .list ((sortP (stepsP W)).map tupP)), ("pairs", .list ((sortP (pairsP W)).map tupP)), ("threes", rowsC threesL), ("wrong", matC W), ("numbers", .list (iL NS))]) (step_conv (step_setC threesL (fun r => .list (natsC r)) (fun r => if keptT W r then [CV.bool (keptV W r)] else []) [("wrong", matC W)] (by kernel_rfl) (slot_local (by kernel_rfl)) (by kernel_rfl) (cap_cons (by (repeat (first | exact lookup_hd | refine lookup_tl (by decide +kernel) ?_))) (by kernel_rfl) cap_nil) (src_list (ev_name (by (repeat (first | exact lookup_hd | refine lookup_tl (by decide +kernel) ?_))) (by decide +kernel) (by decide +kernel))) (fun C r hr => ?_) (size_ok (Nat.le_trans (flat_len (b := 1) fun r _ => by split <;> simp) (by omega))) (fun _ => rfl)) (by rw [hkE])) (by (repeat (first | exact sub_nil | refine sub_mk (by (repeat (first | exact lookup_hd | refine lookup_tl (by decide +kernel) ?_))) ?_)))) ?_
  · obtain ⟨hr1, hr3⟩ := threes_row r hr
    obtain ⟨x, y, z, rfl⟩ : ∃ x y z, r = [x, y, z] := by
      match r, hr1 with
      | [x, y, z], _ => exact ⟨x, y, z, rfl⟩
    have hx : x < 3 := hr3 x (by simp)
    have hy : y < 3 := hr3 y (by simp)
    have hz : z < 3 := hr3 z (by simp)
    refine ⟨_, (W.at x y == W.at y z), bind_list (cs := [.int x, .int y, .int z]) (binds_cons (binds_cons (binds_cons binds_nil (slot_local (by kernel_rfl))) (slot_local (by kernel_rfl))) (slot_local (by kernel_rfl))) (by kernel_rfl) (by kernel_rfl), by (repeat (first | exact sub_nil | refine sub_mk (by (repeat (first | exact lookup_hd | refine lookup_tl (by decide +kernel) ?_))) ?_)), tests_one ?_, fun hb => ?_, fun hb => ?_⟩
    · exact tr_cmp op_eq (ev_weak (ev_wrong hW hx hy (ev_name (by (repeat (first | exact lookup_hd | refine lookup_tl (by decide +kernel) ?_))) (by decide +kernel) (by decide +kernel)) (ev_name (by (repeat (first | exact lookup_hd | refine lookup_tl (by decide +kernel) ?_))) (by decide +kernel) (by decide +kernel)) (ev_name (by (repeat (first | exact lookup_hd | refine lookup_tl (by decide +kernel) ?_))) (by decide +kernel) (by decide +kernel)) (fun _ _ => ⟨_, rfl⟩) (fun _ _ => ⟨_, rfl⟩))) (ev_weak (ev_wrong hW hy hz (ev_name (by (repeat (first | exact lookup_hd | refine lookup_tl (by decide +kernel) ?_))) (by decide +kernel) (by decide +kernel)) (ev_name (by (repeat (first | exact lookup_hd | refine lookup_tl (by decide +kernel) ?_))) (by decide +kernel) (by decide +kernel)) (ev_name (by (repeat (first | exact lookup_hd | refine lookup_tl (by decide +kernel) ?_))) (by decide +kernel) (by decide +kernel)) (fun _ _ => ⟨_, rfl⟩) (fun _ _ => ⟨_, rfl⟩))) rfl
    · rw [if_pos (show keptT W [x, y, z] = true from hb)]
      exact emit_last rfl (ev_cmp_ (ev_weak (ev_wrong hW hx hz (ev_name (by (repeat (first | exact lookup_hd | refine lookup_tl (by decide +kernel) ?_))) (by decide +kernel) (by decide +kernel)) (ev_name (by (repeat (first | exact lookup_hd | refine lookup_tl (by decide +kernel) ?_))) (by decide +kernel) (by decide +kernel)) (ev_name (by (repeat (first | exact lookup_hd | refine lookup_tl (by decide +kernel) ?_))) (by decide +kernel) (by decide +kernel)) (fun _ _ => ⟨_, rfl⟩) (fun _ _ => ⟨_, rfl⟩))) (ev_weak (ev_wrong hW hx hy (ev_name (by (repeat (first | exact lookup_hd | refine lookup_tl (by decide +kernel) ?_))) (by decide +kernel) (by decide +kernel)) (ev_name (by (repeat (first | exact lookup_hd | refine lookup_tl (by decide +kernel) ?_))) (by decide +kernel) (by decide +kernel)) (ev_name (by (repeat (first | exact lookup_hd | refine lookup_tl (by decide +kernel) ?_))) (by decide +kernel) (by decide +kernel)) (fun _ _ => ⟨_, rfl⟩) (fun _ _ => ⟨_, rfl⟩))) rfl op_eq)
    · exact if_neg (show ¬ keptT W [x, y, z] = true by rw [show keptT W [x, y, z] = false from hb]; decide)
  exact law_p4b (sortP (pairsP W)) (sortP (stepsP W)) (keptL W) hfact h
end
end Mine

namespace Mine
open PySem PySem.W PySem.Calls PyProof.Rows

/-- four digits, and how often each -/
noncomputable def figOf (n : Int) : List Nat := (List.range 4).map fun (k : Nat) => ((n.fdiv ((3 : Int) ^ (k : Int).toNat)).fmod 3).toNat
noncomputable def bagOf (F : List Nat) : List Nat := (List.range 3).map fun k => F.count k
/-- what the plain law tells of a matrix and a bag -/
structure PlainOk (W : Mat) (C : List Nat) : Prop where
  few : (ordIter C C.sum).length < 64
  small : DueSmall W C
  pairs : sortI ((ordIter C C.sum).map (pairsS W)) = dueS W C
  steps : sortI ((ordIter C C.sum).map (stepsS W)) = dueS W C
theorem figOf_lt (n : Int) : ∀ x ∈ figOf n, x < 3 := by
  intro x hx
  obtain ⟨k, _, rfl⟩ := List.mem_map.mp hx
  have h1 : 0 ≤ (n.fdiv ((3 : Int) ^ (k : Int).toNat)).fmod 3 := Int.fmod_nonneg_of_pos _ (by omega)
  have h2 : (n.fdiv ((3 : Int) ^ (k : Int).toNat)).fmod 3 < 3 := Int.fmod_lt_of_pos _ (by omega)
  omega
theorem figOf_len (n : Int) : (figOf n).length = 4 := by simp [figOf]
theorem bagOf_sum : ∀ F : List Nat, (∀ x ∈ F, x < 3) → (bagOf F).sum = F.length
  | [], _ => rfl
  | x :: F, h => by
    have ih := bagOf_sum F fun y hy => h y (List.mem_cons_of_mem _ hy)
    have hx := h x List.mem_cons_self
    have e : ∀ G : List Nat, (bagOf G).sum = G.count 0 + (G.count 1 + (G.count 2 + 0)) := fun G => rfl
    rw [e] at ih ⊢
    rw [List.count_cons, List.count_cons, List.count_cons, List.length_cons]
    have h3 : x = 0 ∨ x = 1 ∨ x = 2 := by omega
    rcases h3 with rfl | rfl | rfl <;> simp <;> omega
theorem bagOf_le (F : List Nat) (h : F.length ≤ 4) : ∀ x, (bagOf F).getD x 0 ≤ 4 := by
  intro x
  unfold bagOf
  rw [List.getD_eq_getElem?_getD, List.getElem?_map]
  cases e : (List.range 3)[x]? with
  | none => simp
  | some k => exact Nat.le_trans List.count_le_length h

section
variable {prog : Program} {w : World} {hB : Heap} {k : Nat} {env : Env} {σ : Sig} {mg mb : Str → Option Value}

theorem ints_np (l : List Int) : (CV.list (iL l)).np = true := nps_map fun _ _ => rfl
theorem ints_sh (l : List Int) : SeqAt.shaped (toPy (.list (iL l))) = true := shaped_of (ints_np l) (Nat.le_trans (depth_list (d := 0) (depths_map fun _ _ => Nat.zero_le _)) (by omega))
theorem pow3_small : ∀ n, n < 4 → ((3 : Int) ^ n).natAbs < 1000000 ∧ (3 : Int) ^ n ≠ 0 := by decide

theorem law_p5 (T : Top prog w hB mg mb) {L a : Addr} {cd : Value} {NS : List Int} (h5 : NS.length = 5) {W : Mat} (hW : MatOk W) (P : PlainOk W (bagOf (figOf (NS.getD 4 0)))) :
    Run prog w hB 6 (envF (defAt 25) L a cd) [("wrong", matC W), ("numbers", .list (iL NS))] ((defAt 25).body.drop 17) (.bool true) := by
  have hlt := figOf_lt (NS.getD 4 0)
  have hfl := figOf_len (NS.getD 4 0)
  have hfE : natsC (figOf (NS.getD 4 0)) = (List.range 4).map fun (k : Nat) => CV.int (((NS.getD 4 0).fdiv ((3 : Int) ^ (k : Int).toNat)).fmod 3) := by
    unfold natsC figOf
    rw [List.map_map]
    refine List.map_congr_left fun k _ => ?_
    have : 0 ≤ ((NS.getD 4 0).fdiv ((3 : Int) ^ (k : Int).toNat)).fmod 3 := Int.fmod_nonneg_of_pos _ (by omega)
    show CV.int ((((NS.getD 4 0).fdiv ((3 : Int) ^ (k : Int).toNat)).fmod 3).toNat : Nat) = _
    rw [Int.toNat_of_nonneg this]
  -- figures
  refine run_step (σ' := [("figures", .list (natsC (figOf (NS.getD 4 0)))), ("wrong", matC W)]) (step_setW (c := .list (natsC (figOf (NS.getD 4 0)))) ?_ (slot_cell (by kernel_rfl)) (by kernel_rfl) (by (repeat (first | exact sub_nil | refine sub_mk (by (repeat (first | exact lookup_hd | refine lookup_tl (by decide +kernel) ?_))) ?_)))) ?_
  · rw [hfE]
    refine ev_comp1 (List.range 4) (fun (k : Nat) => CV.int k) (fun (k : Nat) => CV.int (((NS.getD 4 0).fdiv ((3 : Int) ^ (k : Int).toNat)).fmod 3)) [("numbers", .list (iL NS))] (by kernel_rfl) (cap_cons (by (repeat (first | exact lookup_hd | refine lookup_tl (by decide +kernel) ?_))) (by kernel_rfl) cap_nil) (src_rangeN (n := 4) T ev_int (by omega) rfl (by kernel_rfl)) (fun C j hj => ?_) (by simp) (fun _ => rfl)
    have hj4 : j < 4 := List.mem_range.mp hj
    obtain ⟨q3, q4⟩ := pow3_small (j : Int).toNat (by omega)
    exact ⟨_, true, bind_name (slot_local (by kernel_rfl)), by (repeat (first | exact sub_nil | refine sub_mk (by (repeat (first | exact lookup_hd | refine lookup_tl (by decide +kernel) ?_))) ?_)), tests_nil, fun _ => emit_last rfl (ev_bin (op_mod (by decide)) (ev_bin (op_fdiv q4 (npl q3)) (ev_sub (item_ints (ns := NS) (i := 4) (by omega) (by omega)) (ev_name (by (repeat (first | exact lookup_hd | refine lookup_tl (by decide +kernel) ?_))) (by decide +kernel) (by decide +kernel)) ev_int (fun _ _ => ⟨_, rfl⟩)) (ev_bin (op_pow (by omega) (by omega) (by omega)) ev_int (ev_name (by (repeat (first | exact lookup_hd | refine lookup_tl (by decide +kernel) ?_))) (by decide +kernel) (by decide +kernel)))) ev_int), fun h => nomatch h⟩
  generalize figOf (NS.getD 4 0) = F at P hlt hfl
  have hsum := bagOf_sum F hlt
  have hle := bagOf_le F (by omega)
  have hcE : natsC (bagOf F) = (List.range 3).map fun (j : Nat) => CV.int (F.count j : Nat) := by
    unfold natsC bagOf; rw [List.map_map]; rfl
  -- counts
  refine run_step (σ' := [("counts", .list (natsC (bagOf F))), ("wrong", matC W)]) (step_weak (σ₁ := ("counts", .list (natsC (bagOf F))) :: [("figures", .list (natsC F)), ("wrong", matC W)]) ?_ (by (repeat (first | exact sub_nil | refine sub_mk (by (repeat (first | exact lookup_hd | refine lookup_tl (by decide +kernel) ?_))) ?_)))) ?_
  · rw [hcE]
    refine step_setC1 (List.range 3) (fun (k : Nat) => CV.int k) (fun (j : Nat) => CV.int (F.count j : Nat)) [("figures", .list (natsC F))] (by kernel_rfl) (slot_local (by kernel_rfl)) (by kernel_rfl) (cap_cons (by (repeat (first | exact lookup_hd | refine lookup_tl (by decide +kernel) ?_))) (by kernel_rfl) cap_nil) (src_rangeN (n := 3) T ev_int (by omega) rfl (by kernel_rfl)) (fun C j hj => ?_) (by simp) (fun _ => rfl)
    exact ⟨_, true, bind_name (slot_local (by kernel_rfl)), by (repeat (first | exact sub_nil | refine sub_mk (by (repeat (first | exact lookup_hd | refine lookup_tl (by decide +kernel) ?_))) ?_)), tests_nil, fun _ => emit_last rfl (ev_meth1 (ev_name (by (repeat (first | exact lookup_hd | refine lookup_tl (by decide +kernel) ?_))) (by decide +kernel) (by decide +kernel)) (ev_name (by (repeat (first | exact lookup_hd | refine lookup_tl (by decide +kernel) ?_))) (by decide +kernel) (by decide +kernel)) meth_countN (by omega) (by kernel_rfl) rfl rfl), fun h => nomatch h⟩
  have hbl : (bagOf F).length = 3 := by simp [bagOf]
  generalize bagOf F = C at P hle hsum hbl
  have hrow := ordIter_row C C.sum
  obtain ⟨pf, psm, ppr, pst⟩ := P
  -- rows, due
  refine run_step (step_swap (cs := [rowsC (ordIter C C.sum), .list (iL (dueS W C))]) (names := ["rows", "due"]) (ev_tup (evs_cons (ev_call T.glob (fn_orders T hbl (by omega)) (by omega) (evs_cons (ev_name (by (repeat (first | exact lookup_hd | refine lookup_tl (by decide +kernel) ?_))) (by decide +kernel) (by decide +kernel)) evs_nil rfl) rfl (by kernel_rfl) (by decide +kernel)) (evs_cons (ev_call T.glob (fn_due T hW hbl hle psm) (by omega) (evs_cons (ev_name (by (repeat (first | exact lookup_hd | refine lookup_tl (by decide +kernel) ?_))) (by decide +kernel) (by decide +kernel)) (evs_cons (ev_name (by (repeat (first | exact lookup_hd | refine lookup_tl (by decide +kernel) ?_))) (by decide +kernel) (by decide +kernel)) evs_nil rfl) rfl) rfl (by kernel_rfl) (by decide +kernel)) evs_nil rfl) rfl) (size_ok (by simp)))
    (bindn_cons (bindn_cons bindn_nil (slot_local (by kernel_rfl))) (slot_local (by kernel_rfl))) rfl (by kernel_rfl) (by kernel_rfl)) ?_
  refine run_sub (τ := [("rows", rowsC (ordIter C C.sum)), ("due", .list (iL (dueS W C))), ("wrong", matC W)]) ?_ (by (repeat (first | exact sub_nil | refine sub_mk (by (repeat (first | exact lookup_hd | refine lookup_tl (by decide +kernel) ?_))) ?_)))
  generalize ordIter C C.sum = rs at pf ppr pst hrow
  generalize dueS W C = due at ppr pst
  have hr4 : ∀ r ∈ rs, r.length ≤ 100 := fun r hr => by have := (hrow r hr).1; omega
  have e1 : OpX prog w hB (compareOp .NotEq) (.list (iL due)) (.list (iL due)) (.bool false) := by
    have : (!PyData.eqv (toPy (.list (iL due))) (toPy (.list (iL due)))) = false := by rw [eqv_self (ints_np _)]; rfl
    exact this ▸ op_neD (ints_np _) (ints_np _) (ints_sh _) (ints_sh _)
  have e2 : OpX prog w hB (compareOp .Eq) (.list (iL due)) (.list (iL due)) (.bool true) := by
    have : PyData.eqv (toPy (.list (iL due))) (toPy (.list (iL due))) = true := eqv_self (ints_np _)
    exact this ▸ op_eqD (ints_np _) (ints_np _) (ints_sh _) (ints_sh _)
  refine run_if (trx_cmp_ (ev_conv (ev_sortI (l := rs.map (pairsS W)) T (by rw [List.length_map]; exact pf) (ev_ilist (ev_comp1 rs (fun r => .list (natsC r)) (fun r => .int (pairsS W r)) [("wrong", matC W)] (by kernel_rfl) (cap_cons (by (repeat (first | exact lookup_hd | refine lookup_tl (by decide +kernel) ?_))) (by kernel_rfl) cap_nil) (src_list (ev_name (by (repeat (first | exact lookup_hd | refine lookup_tl (by decide +kernel) ?_))) (by decide +kernel) (by decide +kernel))) (fun D r hr => ?_) (by omega) (fun _ => rfl)) (by unfold iL; rw [List.map_map]; rfl)) (by omega) rfl (by kernel_rfl)) (by rw [ppr])) (ev_name (by (repeat (first | exact lookup_hd | refine lookup_tl (by decide +kernel) ?_))) (by decide +kernel) (by decide +kernel)) rfl e1) (fun h' => by cases h') (fun _ => run_ret (evx_cmp_ (ev_conv (ev_sortI (l := rs.map (stepsS W)) T (by rw [List.length_map]; exact pf) (ev_ilist (ev_comp1 rs (fun r => .list (natsC r)) (fun r => .int (stepsS W r)) [("wrong", matC W)] (by kernel_rfl) (cap_cons (by (repeat (first | exact lookup_hd | refine lookup_tl (by decide +kernel) ?_))) (by kernel_rfl) cap_nil) (src_list (ev_name (by (repeat (first | exact lookup_hd | refine lookup_tl (by decide +kernel) ?_))) (by decide +kernel) (by decide +kernel))) (fun D r hr => ?_) (by omega) (fun _ => rfl)) (by unfold iL; rw [List.map_map]; rfl)) (by omega) rfl (by kernel_rfl)) (by rw [pst])) (ev_name (by (repeat (first | exact lookup_hd | refine lookup_tl (by decide +kernel) ?_))) (by decide +kernel) (by decide +kernel)) rfl e2))
  · exact ⟨_, true, bind_name (slot_local (by kernel_rfl)), by (repeat (first | exact sub_nil | refine sub_mk (by (repeat (first | exact lookup_hd | refine lookup_tl (by decide +kernel) ?_))) ?_)), tests_nil, fun _ => emit_last rfl (ev_call T.glob (fn_pairs T hW (hrow r hr).2 (hr4 r hr)) (by omega) (evs_cons (ev_name (by (repeat (first | exact lookup_hd | refine lookup_tl (by decide +kernel) ?_))) (by decide +kernel) (by decide +kernel)) (evs_cons (ev_name (by (repeat (first | exact lookup_hd | refine lookup_tl (by decide +kernel) ?_))) (by decide +kernel) (by decide +kernel)) evs_nil rfl) rfl) rfl (by kernel_rfl) (by decide +kernel)), fun h => nomatch h⟩
  · exact ⟨_, true, bind_name (slot_local (by kernel_rfl)), by (repeat (first | exact sub_nil | refine sub_mk (by (repeat (first | exact lookup_hd | refine lookup_tl (by decide +kernel) ?_))) ?_)), tests_nil, fun _ => emit_last rfl (ev_call T.glob (fn_steps T hW (hrow r hr).2 (hr4 r hr)) (by omega) (evs_cons (ev_name (by (repeat (first | exact lookup_hd | refine lookup_tl (by decide +kernel) ?_))) (by decide +kernel) (by decide +kernel)) (evs_cons (ev_name (by (repeat (first | exact lookup_hd | refine lookup_tl (by decide +kernel) ?_))) (by decide +kernel) (by decide +kernel)) evs_nil rfl) rfl) rfl (by kernel_rfl) (by decide +kernel)), fun h => nomatch h⟩
end
end Mine

namespace Mine
open PySem PySem.W PySem.Calls PyProof.Rows

-- the plain law on naturals, light for the kernel
noncomputable def gm (a b c d e f g h i : Nat) (x y : Nat) : Nat := match x with
  | 0 => (match y with | 0 => a | 1 => b | _ => c)
  | 1 => (match y with | 0 => d | 1 => e | _ => f)
  | _ => (match y with | 0 => g | 1 => h | _ => i)
structure GAt (W : Mat) (g : Nat → Nat → Nat) : Prop where
  at_ : ∀ x y, x < 3 → y < 3 → W.at x y = ((g x y : Nat) : Int)
  bit : ∀ x y, g x y ≤ 1
theorem toNat_bit {b : Int} (h : b = 0 ∨ b = 1) : b = ((b.toNat : Nat) : Int) ∧ b.toNat ≤ 1 := by
  rcases h with rfl | rfl <;> exact ⟨rfl, by decide⟩
theorem at_of {W : Mat} (h : Bits W) : ∃ a b c d e f g i j : Nat, (a ≤ 1 ∧ b ≤ 1 ∧ c ≤ 1) ∧ (d ≤ 1 ∧ e ≤ 1 ∧ f ≤ 1) ∧ (g ≤ 1 ∧ i ≤ 1 ∧ j ≤ 1) ∧ GAt W (gm a b c d e f g i j) := by
  obtain ⟨hl, hr⟩ := h
  match W, hl with
  | [r, s, t], _ =>
    obtain ⟨r1, r2⟩ := hr r (by simp)
    obtain ⟨s1, s2⟩ := hr s (by simp)
    obtain ⟨t1, t2⟩ := hr t (by simp)
    match r, r1, s, s1, t, t1 with
    | [a, b, c], _, [d, e, f], _, [g, i, j], _ =>
      obtain ⟨a1, a2⟩ := toNat_bit (r2 a (by simp))
      obtain ⟨b1, b2⟩ := toNat_bit (r2 b (by simp))
      obtain ⟨c1, c2⟩ := toNat_bit (r2 c (by simp))
      obtain ⟨d1, d2⟩ := toNat_bit (s2 d (by simp))
      obtain ⟨e1, e2⟩ := toNat_bit (s2 e (by simp))
      obtain ⟨f1, f2⟩ := toNat_bit (s2 f (by simp))
      obtain ⟨g1, g2⟩ := toNat_bit (t2 g (by simp))
      obtain ⟨i1, i2⟩ := toNat_bit (t2 i (by simp))
      obtain ⟨j1, j2⟩ := toNat_bit (t2 j (by simp))
      refine ⟨a.toNat, b.toNat, c.toNat, d.toNat, e.toNat, f.toNat, g.toNat, i.toNat, j.toNat, ⟨a2, b2, c2⟩, ⟨d2, e2, f2⟩, ⟨g2, i2, j2⟩, ⟨fun x y hx hy => ?_, fun x y => ?_⟩⟩
      · have hx' : x = 0 ∨ x = 1 ∨ x = 2 := by omega
        have hy' : y = 0 ∨ y = 1 ∨ y = 2 := by omega
        rcases hx' with rfl | rfl | rfl <;> rcases hy' with rfl | rfl | rfl <;> assumption
      · unfold gm
        split <;> split <;> assumption

section
variable {W : Mat} {g : Nat → Nat → Nat}
theorem cnt1_nats : ∀ {l : List Nat}, (∀ x ∈ l, x ≤ 1) → cnt1 (l.map fun (n : Nat) => (n : Int)) = ((l.sum : Nat) : Int)
  | [], _ => rfl
  | x :: l, h => by
    have ih := cnt1_nats fun y hy => h y (List.mem_cons_of_mem _ hy)
    have hx := h x List.mem_cons_self
    unfold cnt1 at ih ⊢
    rw [List.map_cons, List.countP_cons, List.sum_cons]
    have h3 : x = 0 ∨ x = 1 := by omega
    rcases h3 with rfl | rfl
    · rw [if_neg (by decide)]; omega
    · rw [if_pos (by decide)]; omega
noncomputable def p3 (g : Nat → Nat → Nat) (x y z : Nat) : Nat := Nat.add (g x y) (Nat.add (g x z) (g y z))
noncomputable def s3 (g : Nat → Nat → Nat) (x y z : Nat) : Nat := Nat.add (g x y) (Nat.mul 2 (g y z))
noncomputable def p4 (g : Nat → Nat → Nat) (x y z u : Nat) : Nat := Nat.add (g x y) (Nat.add (g x z) (Nat.add (g y z) (Nat.add (g x u) (Nat.add (g y u) (g z u)))))
noncomputable def s4 (g : Nat → Nat → Nat) (x y z u : Nat) : Nat := Nat.add (g x y) (Nat.add (Nat.mul 2 (g y z)) (Nat.mul 3 (g z u)))
theorem pairs_3 (G : GAt W g) {x y z : Nat} (hx : x < 3) (hy : y < 3) (hz : z < 3) : pairsS W [x, y, z] = ((p3 g x y z : Nat) : Int) := by
  have e : pairsS W [x, y, z] = cnt1 [W.at x y, W.at x z, W.at y z] := rfl
  rw [e, G.at_ x y hx hy, G.at_ x z hx hz, G.at_ y z hy hz]
  have := cnt1_nats (l := [g x y, g x z, g y z]) (by
    intro v hv
    simp only [List.mem_cons, List.not_mem_nil, or_false] at hv
    rcases hv with rfl | rfl | rfl <;> exact G.bit _ _)
  exact this
theorem steps_3 (G : GAt W g) {x y z : Nat} (hx : x < 3) (hy : y < 3) (hz : z < 3) : stepsS W [x, y, z] = ((s3 g x y z : Nat) : Int) := by
  have e : stepsS W [x, y, z] = ((1 : Nat) : Int) * W.at x y + (((2 : Nat) : Int) * W.at y z + 0) := rfl
  have e2 : s3 g x y z = g x y + 2 * g y z := rfl
  rw [e, e2, G.at_ x y hx hy, G.at_ y z hy hz]
  omega
theorem pairs_4 (G : GAt W g) {x y z u : Nat} (hx : x < 3) (hy : y < 3) (hz : z < 3) (hu : u < 3) : pairsS W [x, y, z, u] = ((p4 g x y z u : Nat) : Int) := by
  have e : pairsS W [x, y, z, u] = cnt1 [W.at x y, W.at x z, W.at y z, W.at x u, W.at y u, W.at z u] := rfl
  rw [e, G.at_ x y hx hy, G.at_ x z hx hz, G.at_ y z hy hz, G.at_ x u hx hu, G.at_ y u hy hu, G.at_ z u hz hu]
  have := cnt1_nats (l := [g x y, g x z, g y z, g x u, g y u, g z u]) (by
    intro v hv
    simp only [List.mem_cons, List.not_mem_nil, or_false] at hv
    rcases hv with rfl | rfl | rfl | rfl | rfl | rfl <;> exact G.bit _ _)
  exact this
theorem steps_4 (G : GAt W g) {x y z u : Nat} (hx : x < 3) (hy : y < 3) (hz : z < 3) (hu : u < 3) : stepsS W [x, y, z, u] = ((s4 g x y z u : Nat) : Int) := by
  have e : stepsS W [x, y, z, u] = ((1 : Nat) : Int) * W.at x y + (((2 : Nat) : Int) * W.at y z + (((3 : Nat) : Int) * W.at z u + 0)) := rfl
  have e2 : s4 g x y z u = g x y + (2 * g y z + 3 * g z u) := rfl
  rw [e, e2, G.at_ x y hx hy, G.at_ y z hy hz, G.at_ z u hz hu]
  omega
end

-- sorting naturals
noncomputable def insN (x : Nat) : List Nat → List Nat
  | [] => [x]
  | y :: r => bif Nat.ble x y then x :: y :: r else y :: insN x r
noncomputable def sortN : List Nat → List Nat
  | [] => []
  | x :: r => insN x (sortN r)
noncomputable def eqN : List Nat → List Nat → Bool
  | [], [] => true
  | x :: l, y :: m => bif Nat.beq x y then eqN l m else false
  | _, _ => false
theorem eqN_iff : ∀ {l m : List Nat}, eqN l m = true ↔ l = m
  | [], [] => by simp [eqN]
  | [], _ :: _ => by simp [eqN]
  | _ :: _, [] => by simp [eqN]
  | x :: l, y :: m => by
    unfold eqN
    cases h : Nat.beq x y with
    | true =>
      have : x = y := Nat.eq_of_beq_eq_true h
      simp [this, eqN_iff (l := l) (m := m)]
    | false =>
      have : x ≠ y := Nat.ne_of_beq_eq_false h
      simp [this]
section
variable {α : Type} {le : α → α → Bool} {f : Nat → α} (hf : ∀ a b, le (f a) (f b) = Nat.ble a b)
include hf
theorem insS_map (x : Nat) : ∀ l : List Nat, insS le (f x) (l.map f) = (insN x l).map f
  | [] => rfl
  | y :: r => by
    rw [List.map_cons]
    unfold insS insN
    rw [hf, insS_map x r]
    cases Nat.ble x y <;> rfl
theorem isort_map : ∀ l : List Nat, isort le (l.map f) = (sortN l).map f
  | [] => rfl
  | x :: r => by
    rw [List.map_cons]
    unfold isort sortN
    rw [isort_map r, insS_map hf]
end
theorem sortI_nats (l : List Nat) : sortI (l.map fun (n : Nat) => (n : Int)) = (sortN l).map fun (n : Nat) => (n : Int) := by
  refine isort_map (le := leI) (f := fun (n : Nat) => (n : Int)) (fun a b => ?_) l
  unfold leI
  rw [Bool.eq_iff_iff, decide_eq_true_iff, Nat.ble_eq]
  exact Int.ofNat_le
theorem isort_of_perm {α : Type} {le : α → α → Bool} (tot : ∀ a b, le a b = true ∨ le b a = true) (tr : ∀ a b c, le a b = true → le b c = true → le a c = true) (anti : ∀ a b, le a b = true → le b a = true → a = b)
    {l m : List α} (h : l.Perm m) : isort le l = isort le m :=
  sorted_unique anti ((isort_perm le l).trans (h.trans (isort_perm le m).symm)) (isort_sorted tot tr l) (isort_sorted tot tr m)
end Mine

namespace Mine
open PySem PySem.W PySem.Calls PyProof.Rows

noncomputable def T3 : List (Nat × Nat × Nat × Nat) := [(3, 0, 0, 0), (6, 0, 0, 1), (6, 0, 1, 0), (6, 1, 0, 0), (9, 0, 1, 1), (9, 1, 0, 1), (9, 1, 1, 0), (12, 1, 1, 1), (18, 0, 0, 2), (18, 0, 2, 0), (18, 2, 0, 0), (21, 0, 1, 2), (21, 0, 2, 1), (21, 1, 0, 2), (21, 1, 2, 0), (21, 2, 0, 1), (21, 2, 1, 0), (24, 1, 1, 2), (24, 1, 2, 1), (24, 2, 1, 1), (33, 0, 2, 2), (33, 2, 0, 2), (33, 2, 2, 0), (36, 1, 2, 2), (36, 2, 1, 2), (36, 2, 2, 1), (48, 2, 2, 2)]
noncomputable def t3r (t : Nat × Nat × Nat × Nat) : List Nat := [t.2.1, t.2.2.1, t.2.2.2]
theorem T3_perm : threesL.Perm (T3.map t3r) := by decide +kernel
theorem T3_ok : ∀ t ∈ T3, keyS (t3r t) = ((t.1 : Nat) : Int) ∧ t.2.1 < 3 ∧ t.2.2.1 < 3 ∧ t.2.2.2 < 3 := by decide +kernel
noncomputable def dec8 (n : Nat) : Int × Int := (((n / 8 : Nat) : Int), ((n % 8 : Nat) : Int))
theorem dec8_mk (k v : Nat) (h : v < 8) : dec8 (Nat.add (Nat.mul 8 k) v) = (((k : Nat) : Int), ((v : Nat) : Int)) := by
  have e : Nat.add (Nat.mul 8 k) v = 8 * k + v := rfl
  have e1 : (8 * k + v) / 8 = k := by omega
  have e2 : (8 * k + v) % 8 = v := by omega
  unfold dec8
  rw [e, e1, e2]
theorem dec8_le (a b : Nat) : leP (dec8 a) (dec8 b) = Nat.ble a b := by
  unfold leP dec8
  rw [Bool.eq_iff_iff]
  simp only [Bool.or_eq_true, Bool.and_eq_true, decide_eq_true_eq, beq_iff_eq, Nat.ble_eq]
  omega
theorem dec8_inj {a b : Nat} (h : dec8 a = dec8 b) : a = b := by
  unfold dec8 at h
  obtain ⟨h1, h2⟩ := Prod.mk.inj h
  omega
noncomputable def pc (g : Nat → Nat → Nat) (t : Nat × Nat × Nat × Nat) : Nat := Nat.add (Nat.mul 8 t.1) (p3 g t.2.1 t.2.2.1 t.2.2.2)
noncomputable def sc (g : Nat → Nat → Nat) (t : Nat × Nat × Nat × Nat) : Nat := Nat.add (Nat.mul 8 t.1) (s3 g t.2.1 t.2.2.1 t.2.2.2)
noncomputable def bipN (g : Nat → Nat → Nat) : List (Nat × Nat × Nat × Nat) → Bool
  | [] => true
  | t :: r => bif (bif Nat.beq (g t.2.1 t.2.2.1) (g t.2.2.1 t.2.2.2) then Nat.beq (g t.2.1 t.2.2.2) (g t.2.1 t.2.2.1) else true) then bipN g r else false

section
variable {W : Mat} {g : Nat → Nat → Nat}
theorem pairsP_sort (G : GAt W g) : sortP (pairsP W) = (sortN (T3.map (pc g))).map dec8 := by
  have e : (T3.map t3r).map (fun r => (keyS r, pairsS W r)) = (T3.map (pc g)).map dec8 := by
    rw [List.map_map, List.map_map]
    refine List.map_congr_left fun t ht => ?_
    obtain ⟨h1, h2, h3, h4⟩ := T3_ok t ht
    show (keyS (t3r t), pairsS W [t.2.1, t.2.2.1, t.2.2.2]) = dec8 (pc g t)
    unfold pc
    rw [h1, pairs_3 G h2 h3 h4, dec8_mk]
    have b1 := G.bit t.2.1 t.2.2.1
    have b2 := G.bit t.2.1 t.2.2.2
    have b3 := G.bit t.2.2.1 t.2.2.2
    show g _ _ + (g _ _ + g _ _) < 8
    omega
  unfold sortP pairsP
  rw [isort_of_perm leP_tot leP_tr leP_anti (T3_perm.map _), e]
  exact isort_map (le := leP) (f := dec8) dec8_le _
theorem stepsP_sort (G : GAt W g) : sortP (stepsP W) = (sortN (T3.map (sc g))).map dec8 := by
  have e : (T3.map t3r).map (fun r => (keyS r, stepsS W r)) = (T3.map (sc g)).map dec8 := by
    rw [List.map_map, List.map_map]
    refine List.map_congr_left fun t ht => ?_
    obtain ⟨h1, h2, h3, h4⟩ := T3_ok t ht
    show (keyS (t3r t), stepsS W [t.2.1, t.2.2.1, t.2.2.2]) = dec8 (sc g t)
    unfold sc
    rw [h1, steps_3 G h2 h3 h4, dec8_mk]
    have b1 := G.bit t.2.1 t.2.2.1
    have b3 := G.bit t.2.2.1 t.2.2.2
    show g _ _ + 2 * g _ _ < 8
    omega
  unfold sortP stepsP
  rw [isort_of_perm leP_tot leP_tr leP_anti (T3_perm.map _), e]
  exact isort_map (le := leP) (f := dec8) dec8_le _
theorem map_dec8_inj : ∀ {l m : List Nat}, l.map dec8 = m.map dec8 → l = m
  | [], [], _ => rfl
  | [], _ :: _, h => by cases h
  | _ :: _, [], h => by cases h
  | x :: l, y :: m, h => by
    rw [List.map_cons, List.map_cons] at h
    obtain ⟨h1, h2⟩ := List.cons.inj h
    rw [dec8_inj h1, map_dec8_inj h2]
theorem plainA (G : GAt W g) : (sortP (pairsP W) == sortP (stepsP W)) = eqN (sortN (T3.map (pc g))) (sortN (T3.map (sc g))) := by
  rw [pairsP_sort G, stepsP_sort G, Bool.eq_iff_iff, beq_iff_eq, eqN_iff]
  exact ⟨map_dec8_inj, fun h => by rw [h]⟩
theorem bipN_iff : ∀ {l : List (Nat × Nat × Nat × Nat)}, bipN g l = true ↔ ∀ t ∈ l, g t.2.1 t.2.2.1 = g t.2.2.1 t.2.2.2 → g t.2.1 t.2.2.2 = g t.2.1 t.2.2.1
  | [] => by simp [bipN]
  | t :: r => by
    unfold bipN
    have ih := bipN_iff (l := r)
    cases h1 : Nat.beq (g t.2.1 t.2.2.1) (g t.2.2.1 t.2.2.2) with
    | false =>
      have e1 := Nat.ne_of_beq_eq_false h1
      simp only [cond_false, cond_true, ih, List.mem_cons, forall_eq_or_imp, e1, false_implies, true_and]
    | true =>
      have e1 := Nat.eq_of_beq_eq_true h1
      cases h2 : Nat.beq (g t.2.1 t.2.2.2) (g t.2.1 t.2.2.1) with
      | false =>
        have e2 := Nat.ne_of_beq_eq_false h2
        simp only [cond_false, cond_true, Bool.false_eq_true, false_iff]
        exact fun h => e2 (h t List.mem_cons_self e1)
      | true =>
        have e2 := Nat.eq_of_beq_eq_true h2
        simp only [cond_true, ih, List.mem_cons, forall_eq_or_imp, e2, implies_true, true_and]
theorem bip_iff : bip W = true ↔ ∀ r ∈ threesL, keptT W r = true → keptV W r = true := by
  unfold bip keptL
  rw [Bool.not_eq_true', List.any_eq_false]
  constructor
  · intro h r hr ht
    have := h (keptV W r) (List.mem_map.mpr ⟨r, List.mem_filter.mpr ⟨hr, ht⟩, rfl⟩)
    cases hv : keptV W r with
    | true => rfl
    | false => rw [hv] at this; exact absurd rfl this
  · intro h v hv
    obtain ⟨r, hr, rfl⟩ := List.mem_map.mp hv
    obtain ⟨h1, h2⟩ := List.mem_filter.mp hr
    rw [h r h1 h2]; decide
theorem plainB (G : GAt W g) : bip W = bipN g T3 := by
  rw [Bool.eq_iff_iff, bip_iff, bipN_iff]
  have key : ∀ t ∈ T3, (keptT W (t3r t) = true → keptV W (t3r t) = true) ↔ (g t.2.1 t.2.2.1 = g t.2.2.1 t.2.2.2 → g t.2.1 t.2.2.2 = g t.2.1 t.2.2.1) := by
    intro t ht
    obtain ⟨_, h2, h3, h4⟩ := T3_ok t ht
    have e1 : keptT W (t3r t) = (W.at t.2.1 t.2.2.1 == W.at t.2.2.1 t.2.2.2) := rfl
    have e2 : keptV W (t3r t) = (W.at t.2.1 t.2.2.2 == W.at t.2.1 t.2.2.1) := rfl
    rw [e1, e2, G.at_ _ _ h2 h3, G.at_ _ _ h3 h4, G.at_ _ _ h2 h4, beq_iff_eq, beq_iff_eq]
    constructor
    · intro h e; exact Int.ofNat.inj (h (by rw [e]))
    · intro h e; rw [h (Int.ofNat.inj e)]
  constructor
  · exact fun h t ht => (key t ht).mp (h _ (T3_perm.mem_iff.mpr (List.mem_map.mpr ⟨t, ht, rfl⟩)))
  · intro h r hr
    obtain ⟨t, ht, rfl⟩ := List.mem_map.mp (T3_perm.mem_iff.mp hr)
    exact (key t ht).mpr (h t ht)
end
end Mine

namespace Mine
open PySem PySem.W PySem.Calls PyProof.Rows

/-- the matrix that stands for all of a kind -/
noncomputable def canonK (k : Nat) : Mat := [[((k / 8 % 2 : Nat) : Int), ((k % 2 : Nat) : Int), ((k / 2 % 2 : Nat) : Int)], [0, ((k / 16 % 2 : Nat) : Int), ((k / 4 % 2 : Nat) : Int)], [0, 0, ((k / 32 % 2 : Nat) : Int)]]
noncomputable def unN (a b : Nat) : Nat := bif Nat.beq a b then 0 else 1
noncomputable def keyG (g : Nat → Nat → Nat) : Nat := Nat.add (unN (g 0 1) (g 1 0)) (Nat.add (Nat.mul 2 (unN (g 0 2) (g 2 0))) (Nat.add (Nat.mul 4 (unN (g 1 2) (g 2 1))) (Nat.add (Nat.mul 8 (g 0 0)) (Nat.add (Nat.mul 16 (g 1 1)) (Nat.mul 32 (g 2 2))))))
abbrev Row4 := Nat × Nat × Nat × Nat
noncomputable def r4 (t : Row4) : List Nat := [t.1, t.2.1, t.2.2.1, t.2.2.2]

noncomputable def br_0 : List Nat × List Row4 := ([4, 0, 0], [(0, 0, 0, 0)])
noncomputable def br_1 : List Nat × List Row4 := ([3, 1, 0], [(0, 0, 0, 1), (0, 0, 1, 0), (0, 1, 0, 0), (1, 0, 0, 0)])
noncomputable def br_2 : List Nat × List Row4 := ([3, 0, 1], [(0, 0, 0, 2), (0, 0, 2, 0), (0, 2, 0, 0), (2, 0, 0, 0)])
noncomputable def br_3 : List Nat × List Row4 := ([2, 2, 0], [(0, 0, 1, 1), (0, 1, 0, 1), (0, 1, 1, 0), (1, 0, 0, 1), (1, 0, 1, 0), (1, 1, 0, 0)])
noncomputable def br_4 : List Nat × List Row4 := ([2, 1, 1], [(0, 0, 1, 2), (0, 0, 2, 1), (0, 1, 0, 2), (0, 1, 2, 0), (0, 2, 0, 1), (0, 2, 1, 0), (1, 0, 0, 2), (1, 0, 2, 0), (1, 2, 0, 0), (2, 0, 0, 1), (2, 0, 1, 0), (2, 1, 0, 0)])
noncomputable def br_5 : List Nat × List Row4 := ([2, 0, 2], [(0, 0, 2, 2), (0, 2, 0, 2), (0, 2, 2, 0), (2, 0, 0, 2), (2, 0, 2, 0), (2, 2, 0, 0)])
noncomputable def br_6 : List Nat × List Row4 := ([1, 3, 0], [(0, 1, 1, 1), (1, 0, 1, 1), (1, 1, 0, 1), (1, 1, 1, 0)])
noncomputable def br_7 : List Nat × List Row4 := ([1, 2, 1], [(0, 1, 1, 2), (0, 1, 2, 1), (0, 2, 1, 1), (1, 0, 1, 2), (1, 0, 2, 1), (1, 1, 0, 2), (1, 1, 2, 0), (1, 2, 0, 1), (1, 2, 1, 0), (2, 0, 1, 1), (2, 1, 0, 1), (2, 1, 1, 0)])
noncomputable def br_8 : List Nat × List Row4 := ([1, 1, 2], [(0, 1, 2, 2), (0, 2, 1, 2), (0, 2, 2, 1), (1, 0, 2, 2), (1, 2, 0, 2), (1, 2, 2, 0), (2, 0, 1, 2), (2, 0, 2, 1), (2, 1, 0, 2), (2, 1, 2, 0), (2, 2, 0, 1), (2, 2, 1, 0)])
noncomputable def br_9 : List Nat × List Row4 := ([1, 0, 3], [(0, 2, 2, 2), (2, 0, 2, 2), (2, 2, 0, 2), (2, 2, 2, 0)])
noncomputable def br_10 : List Nat × List Row4 := ([0, 4, 0], [(1, 1, 1, 1)])
noncomputable def br_11 : List Nat × List Row4 := ([0, 3, 1], [(1, 1, 1, 2), (1, 1, 2, 1), (1, 2, 1, 1), (2, 1, 1, 1)])
noncomputable def br_12 : List Nat × List Row4 := ([0, 2, 2], [(1, 1, 2, 2), (1, 2, 1, 2), (1, 2, 2, 1), (2, 1, 1, 2), (2, 1, 2, 1), (2, 2, 1, 1)])
noncomputable def br_13 : List Nat × List Row4 := ([0, 1, 3], [(1, 2, 2, 2), (2, 1, 2, 2), (2, 2, 1, 2), (2, 2, 2, 1)])
noncomputable def br_14 : List Nat × List Row4 := ([0, 0, 4], [(2, 2, 2, 2)])
noncomputable def BR : List (List Nat × List Row4) := [br_0, br_1, br_2, br_3, br_4, br_5, br_6, br_7, br_8, br_9, br_10, br_11, br_12, br_13, br_14]
noncomputable def brOk (b : List Nat × List Row4) : Bool := (ordIter b.1 4 == b.2.map r4) && (b.2.all fun t => Nat.blt t.1 3 && Nat.blt t.2.1 3 && Nat.blt t.2.2.1 3 && Nat.blt t.2.2.2 3) && Nat.blt b.2.length 64
theorem BR_ok : BR.all brOk = true := by decide +kernel
noncomputable def bags : List (List Nat) := [[4, 0, 0], [3, 1, 0], [3, 0, 1], [2, 2, 0], [2, 1, 1], [2, 0, 2], [1, 3, 0], [1, 2, 1], [1, 1, 2], [1, 0, 3], [0, 4, 0], [0, 3, 1], [0, 2, 2], [0, 1, 3], [0, 0, 4]]
theorem BR_bags : BR.map (·.1) = bags := rfl
noncomputable def castL (l : List Nat) : List Int := l.map fun (n : Nat) => (n : Int)
noncomputable def rowOk (V : Mat) (b : List Nat × List Row4) (l : List Nat) : Bool := (dueS V b.1 == castL l) && (dueAll V b.1 3).1.all fun x => decide (-10000 ≤ x) && decide (x ≤ 10000)
noncomputable def rowsOk (V : Mat) : List (List Nat × List Row4) → List (List Nat) → Bool
  | [], [] => true
  | b :: bs, l :: ls => bif rowOk V b l then rowsOk V bs ls else false
  | _, _ => false

noncomputable def te_0 : Nat × List (List Nat) := (0, [[0], [0, 0, 0, 0], [0, 0, 0, 0], [0, 0, 0, 0, 0, 0], [0, 0, 0, 0, 0, 0, 0, 0, 0, 0, 0, 0], [0, 0, 0, 0, 0, 0], [0, 0, 0, 0], [0, 0, 0, 0, 0, 0, 0, 0, 0, 0, 0, 0], [0, 0, 0, 0, 0, 0, 0, 0, 0, 0, 0, 0], [0, 0, 0, 0], [0], [0, 0, 0, 0], [0, 0, 0, 0, 0, 0], [0, 0, 0, 0], [0]])
theorem te_ok_0 : rowsOk (canonK te_0.1) BR te_0.2 = true := by decide +kernel
noncomputable def te_1 : Nat × List (List Nat) := (3, [[0], [0, 1, 2, 3], [0, 1, 2, 3], [0, 1, 2, 2, 3, 4], [0, 0, 1, 1, 2, 2, 2, 2, 3, 3, 4, 4], [0, 1, 2, 2, 3, 4], [0, 1, 2, 3], [0, 0, 0, 1, 1, 1, 2, 2, 2, 3, 3, 3], [0, 0, 0, 1, 1, 1, 2, 2, 2, 3, 3, 3], [0, 1, 2, 3], [0], [0, 0, 0, 0], [0, 0, 0, 0, 0, 0], [0, 0, 0, 0], [0]])
theorem te_ok_1 : rowsOk (canonK te_1.1) BR te_1.2 = true := by decide +kernel
noncomputable def te_2 : Nat × List (List Nat) := (5, [[0], [0, 1, 2, 3], [0, 0, 0, 0], [0, 1, 2, 2, 3, 4], [0, 0, 0, 1, 1, 1, 2, 2, 2, 3, 3, 3], [0, 0, 0, 0, 0, 0], [0, 1, 2, 3], [0, 0, 1, 1, 2, 2, 2, 2, 3, 3, 4, 4], [0, 0, 0, 1, 1, 1, 2, 2, 2, 3, 3, 3], [0, 0, 0, 0], [0], [0, 1, 2, 3], [0, 1, 2, 2, 3, 4], [0, 1, 2, 3], [0]])
theorem te_ok_2 : rowsOk (canonK te_2.1) BR te_2.2 = true := by decide +kernel
noncomputable def te_3 : Nat × List (List Nat) := (6, [[0], [0, 0, 0, 0], [0, 1, 2, 3], [0, 0, 0, 0, 0, 0], [0, 0, 0, 1, 1, 1, 2, 2, 2, 3, 3, 3], [0, 1, 2, 2, 3, 4], [0, 0, 0, 0], [0, 0, 0, 1, 1, 1, 2, 2, 2, 3, 3, 3], [0, 0, 1, 1, 2, 2, 2, 2, 3, 3, 4, 4], [0, 1, 2, 3], [0], [0, 1, 2, 3], [0, 1, 2, 2, 3, 4], [0, 1, 2, 3], [0]])
theorem te_ok_3 : rowsOk (canonK te_3.1) BR te_3.2 = true := by decide +kernel
noncomputable def te_4 : Nat × List (List Nat) := (7, [[0], [0, 1, 2, 3], [0, 1, 2, 3], [0, 1, 2, 2, 3, 4], [0, 1, 1, 2, 2, 2, 3, 3, 3, 4, 4, 5], [0, 1, 2, 2, 3, 4], [0, 1, 2, 3], [0, 1, 1, 2, 2, 2, 3, 3, 3, 4, 4, 5], [0, 1, 1, 2, 2, 2, 3, 3, 3, 4, 4, 5], [0, 1, 2, 3], [0], [0, 1, 2, 3], [0, 1, 2, 2, 3, 4], [0, 1, 2, 3], [0]])
theorem te_ok_4 : rowsOk (canonK te_4.1) BR te_4.2 = true := by decide +kernel
noncomputable def te_5 : Nat × List (List Nat) := (11, [[6], [3, 4, 5, 6], [3, 4, 5, 6], [1, 2, 3, 3, 4, 5], [1, 1, 2, 2, 3, 3, 3, 3, 4, 4, 5, 5], [1, 2, 3, 3, 4, 5], [0, 1, 2, 3], [0, 0, 0, 1, 1, 1, 2, 2, 2, 3, 3, 3], [0, 0, 0, 1, 1, 1, 2, 2, 2, 3, 3, 3], [0, 1, 2, 3], [0], [0, 0, 0, 0], [0, 0, 0, 0, 0, 0], [0, 0, 0, 0], [0]])
theorem te_ok_5 : rowsOk (canonK te_5.1) BR te_5.2 = true := by decide +kernel
noncomputable def te_6 : Nat × List (List Nat) := (15, [[6], [3, 4, 5, 6], [3, 4, 5, 6], [1, 2, 3, 3, 4, 5], [1, 2, 2, 3, 3, 3, 4, 4, 4, 5, 5, 6], [1, 2, 3, 3, 4, 5], [0, 1, 2, 3], [0, 1, 1, 2, 2, 2, 3, 3, 3, 4, 4, 5], [0, 1, 1, 2, 2, 2, 3, 3, 3, 4, 4, 5], [0, 1, 2, 3], [0], [0, 1, 2, 3], [0, 1, 2, 2, 3, 4], [0, 1, 2, 3], [0]])
theorem te_ok_6 : rowsOk (canonK te_6.1) BR te_6.2 = true := by decide +kernel
noncomputable def te_7 : Nat × List (List Nat) := (21, [[0], [0, 1, 2, 3], [0, 0, 0, 0], [1, 2, 3, 3, 4, 5], [0, 0, 0, 1, 1, 1, 2, 2, 2, 3, 3, 3], [0, 0, 0, 0, 0, 0], [3, 4, 5, 6], [1, 1, 2, 2, 3, 3, 3, 3, 4, 4, 5, 5], [0, 0, 0, 1, 1, 1, 2, 2, 2, 3, 3, 3], [0, 0, 0, 0], [6], [3, 4, 5, 6], [1, 2, 3, 3, 4, 5], [0, 1, 2, 3], [0]])
theorem te_ok_7 : rowsOk (canonK te_7.1) BR te_7.2 = true := by decide +kernel
noncomputable def te_8 : Nat × List (List Nat) := (23, [[0], [0, 1, 2, 3], [0, 1, 2, 3], [1, 2, 3, 3, 4, 5], [0, 1, 1, 2, 2, 2, 3, 3, 3, 4, 4, 5], [0, 1, 2, 2, 3, 4], [3, 4, 5, 6], [1, 2, 2, 3, 3, 3, 4, 4, 4, 5, 5, 6], [0, 1, 1, 2, 2, 2, 3, 3, 3, 4, 4, 5], [0, 1, 2, 3], [6], [3, 4, 5, 6], [1, 2, 3, 3, 4, 5], [0, 1, 2, 3], [0]])
theorem te_ok_8 : rowsOk (canonK te_8.1) BR te_8.2 = true := by decide +kernel
noncomputable def te_9 : Nat × List (List Nat) := (30, [[6], [6, 6, 6, 6], [3, 4, 5, 6], [6, 6, 6, 6, 6, 6], [3, 3, 3, 4, 4, 4, 5, 5, 5, 6, 6, 6], [1, 2, 3, 3, 4, 5], [6, 6, 6, 6], [3, 3, 3, 4, 4, 4, 5, 5, 5, 6, 6, 6], [1, 1, 2, 2, 3, 3, 3, 3, 4, 4, 5, 5], [0, 1, 2, 3], [6], [3, 4, 5, 6], [1, 2, 3, 3, 4, 5], [0, 1, 2, 3], [0]])
theorem te_ok_9 : rowsOk (canonK te_9.1) BR te_9.2 = true := by decide +kernel
noncomputable def te_10 : Nat × List (List Nat) := (31, [[6], [3, 4, 5, 6], [3, 4, 5, 6], [2, 3, 4, 4, 5, 6], [1, 2, 2, 3, 3, 3, 4, 4, 4, 5, 5, 6], [1, 2, 3, 3, 4, 5], [3, 4, 5, 6], [1, 2, 2, 3, 3, 3, 4, 4, 4, 5, 5, 6], [0, 1, 1, 2, 2, 2, 3, 3, 3, 4, 4, 5], [0, 1, 2, 3], [6], [3, 4, 5, 6], [1, 2, 3, 3, 4, 5], [0, 1, 2, 3], [0]])
theorem te_ok_10 : rowsOk (canonK te_10.1) BR te_10.2 = true := by decide +kernel
noncomputable def te_11 : Nat × List (List Nat) := (38, [[0], [0, 0, 0, 0], [0, 1, 2, 3], [0, 0, 0, 0, 0, 0], [0, 0, 0, 1, 1, 1, 2, 2, 2, 3, 3, 3], [1, 2, 3, 3, 4, 5], [0, 0, 0, 0], [0, 0, 0, 1, 1, 1, 2, 2, 2, 3, 3, 3], [1, 1, 2, 2, 3, 3, 3, 3, 4, 4, 5, 5], [3, 4, 5, 6], [0], [0, 1, 2, 3], [1, 2, 3, 3, 4, 5], [3, 4, 5, 6], [6]])
theorem te_ok_11 : rowsOk (canonK te_11.1) BR te_11.2 = true := by decide +kernel
noncomputable def te_12 : Nat × List (List Nat) := (39, [[0], [0, 1, 2, 3], [0, 1, 2, 3], [0, 1, 2, 2, 3, 4], [0, 1, 1, 2, 2, 2, 3, 3, 3, 4, 4, 5], [1, 2, 3, 3, 4, 5], [0, 1, 2, 3], [0, 1, 1, 2, 2, 2, 3, 3, 3, 4, 4, 5], [1, 2, 2, 3, 3, 3, 4, 4, 4, 5, 5, 6], [3, 4, 5, 6], [0], [0, 1, 2, 3], [1, 2, 3, 3, 4, 5], [3, 4, 5, 6], [6]])
theorem te_ok_12 : rowsOk (canonK te_12.1) BR te_12.2 = true := by decide +kernel
noncomputable def te_13 : Nat × List (List Nat) := (45, [[6], [3, 4, 5, 6], [6, 6, 6, 6], [1, 2, 3, 3, 4, 5], [3, 3, 3, 4, 4, 4, 5, 5, 5, 6, 6, 6], [6, 6, 6, 6, 6, 6], [0, 1, 2, 3], [1, 1, 2, 2, 3, 3, 3, 3, 4, 4, 5, 5], [3, 3, 3, 4, 4, 4, 5, 5, 5, 6, 6, 6], [6, 6, 6, 6], [0], [0, 1, 2, 3], [1, 2, 3, 3, 4, 5], [3, 4, 5, 6], [6]])
theorem te_ok_13 : rowsOk (canonK te_13.1) BR te_13.2 = true := by decide +kernel
noncomputable def te_14 : Nat × List (List Nat) := (47, [[6], [3, 4, 5, 6], [3, 4, 5, 6], [1, 2, 3, 3, 4, 5], [1, 2, 2, 3, 3, 3, 4, 4, 4, 5, 5, 6], [2, 3, 4, 4, 5, 6], [0, 1, 2, 3], [0, 1, 1, 2, 2, 2, 3, 3, 3, 4, 4, 5], [1, 2, 2, 3, 3, 3, 4, 4, 4, 5, 5, 6], [3, 4, 5, 6], [0], [0, 1, 2, 3], [1, 2, 3, 3, 4, 5], [3, 4, 5, 6], [6]])
theorem te_ok_14 : rowsOk (canonK te_14.1) BR te_14.2 = true := by decide +kernel
noncomputable def te_15 : Nat × List (List Nat) := (51, [[0], [0, 1, 2, 3], [0, 1, 2, 3], [1, 2, 3, 3, 4, 5], [1, 1, 2, 2, 3, 3, 3, 3, 4, 4, 5, 5], [1, 2, 3, 3, 4, 5], [3, 4, 5, 6], [3, 3, 3, 4, 4, 4, 5, 5, 5, 6, 6, 6], [3, 3, 3, 4, 4, 4, 5, 5, 5, 6, 6, 6], [3, 4, 5, 6], [6], [6, 6, 6, 6], [6, 6, 6, 6, 6, 6], [6, 6, 6, 6], [6]])
theorem te_ok_15 : rowsOk (canonK te_15.1) BR te_15.2 = true := by decide +kernel
noncomputable def te_16 : Nat × List (List Nat) := (55, [[0], [0, 1, 2, 3], [0, 1, 2, 3], [1, 2, 3, 3, 4, 5], [0, 1, 1, 2, 2, 2, 3, 3, 3, 4, 4, 5], [1, 2, 3, 3, 4, 5], [3, 4, 5, 6], [1, 2, 2, 3, 3, 3, 4, 4, 4, 5, 5, 6], [1, 2, 2, 3, 3, 3, 4, 4, 4, 5, 5, 6], [3, 4, 5, 6], [6], [3, 4, 5, 6], [2, 3, 4, 4, 5, 6], [3, 4, 5, 6], [6]])
theorem te_ok_16 : rowsOk (canonK te_16.1) BR te_16.2 = true := by decide +kernel
noncomputable def te_17 : Nat × List (List Nat) := (56, [[6], [6, 6, 6, 6], [6, 6, 6, 6], [6, 6, 6, 6, 6, 6], [6, 6, 6, 6, 6, 6, 6, 6, 6, 6, 6, 6], [6, 6, 6, 6, 6, 6], [6, 6, 6, 6], [6, 6, 6, 6, 6, 6, 6, 6, 6, 6, 6, 6], [6, 6, 6, 6, 6, 6, 6, 6, 6, 6, 6, 6], [6, 6, 6, 6], [6], [6, 6, 6, 6], [6, 6, 6, 6, 6, 6], [6, 6, 6, 6], [6]])
theorem te_ok_17 : rowsOk (canonK te_17.1) BR te_17.2 = true := by decide +kernel
noncomputable def te_18 : Nat × List (List Nat) := (59, [[6], [3, 4, 5, 6], [3, 4, 5, 6], [2, 3, 4, 4, 5, 6], [2, 2, 3, 3, 4, 4, 4, 4, 5, 5, 6, 6], [2, 3, 4, 4, 5, 6], [3, 4, 5, 6], [3, 3, 3, 4, 4, 4, 5, 5, 5, 6, 6, 6], [3, 3, 3, 4, 4, 4, 5, 5, 5, 6, 6, 6], [3, 4, 5, 6], [6], [6, 6, 6, 6], [6, 6, 6, 6, 6, 6], [6, 6, 6, 6], [6]])
theorem te_ok_18 : rowsOk (canonK te_18.1) BR te_18.2 = true := by decide +kernel
noncomputable def te_19 : Nat × List (List Nat) := (61, [[6], [3, 4, 5, 6], [6, 6, 6, 6], [2, 3, 4, 4, 5, 6], [3, 3, 3, 4, 4, 4, 5, 5, 5, 6, 6, 6], [6, 6, 6, 6, 6, 6], [3, 4, 5, 6], [2, 2, 3, 3, 4, 4, 4, 4, 5, 5, 6, 6], [3, 3, 3, 4, 4, 4, 5, 5, 5, 6, 6, 6], [6, 6, 6, 6], [6], [3, 4, 5, 6], [2, 3, 4, 4, 5, 6], [3, 4, 5, 6], [6]])
theorem te_ok_19 : rowsOk (canonK te_19.1) BR te_19.2 = true := by decide +kernel
noncomputable def te_20 : Nat × List (List Nat) := (62, [[6], [6, 6, 6, 6], [3, 4, 5, 6], [6, 6, 6, 6, 6, 6], [3, 3, 3, 4, 4, 4, 5, 5, 5, 6, 6, 6], [2, 3, 4, 4, 5, 6], [6, 6, 6, 6], [3, 3, 3, 4, 4, 4, 5, 5, 5, 6, 6, 6], [2, 2, 3, 3, 4, 4, 4, 4, 5, 5, 6, 6], [3, 4, 5, 6], [6], [3, 4, 5, 6], [2, 3, 4, 4, 5, 6], [3, 4, 5, 6], [6]])
theorem te_ok_20 : rowsOk (canonK te_20.1) BR te_20.2 = true := by decide +kernel
noncomputable def te_21 : Nat × List (List Nat) := (63, [[6], [3, 4, 5, 6], [3, 4, 5, 6], [2, 3, 4, 4, 5, 6], [1, 2, 2, 3, 3, 3, 4, 4, 4, 5, 5, 6], [2, 3, 4, 4, 5, 6], [3, 4, 5, 6], [1, 2, 2, 3, 3, 3, 4, 4, 4, 5, 5, 6], [1, 2, 2, 3, 3, 3, 4, 4, 4, 5, 5, 6], [3, 4, 5, 6], [6], [3, 4, 5, 6], [2, 3, 4, 4, 5, 6], [3, 4, 5, 6], [6]])
theorem te_ok_21 : rowsOk (canonK te_21.1) BR te_21.2 = true := by decide +kernel
noncomputable def tabT : List (Nat × List (List Nat)) := [te_0, te_1, te_2, te_3, te_4, te_5, te_6, te_7, te_8, te_9, te_10, te_11, te_12, te_13, te_14, te_15, te_16, te_17, te_18, te_19, te_20, te_21]
theorem tab_ok : ∀ e ∈ tabT, rowsOk (canonK e.1) BR e.2 = true := by
  intro e he
  simp only [tabT, List.mem_cons, List.not_mem_nil, or_false] at he
  rcases he with rfl | rfl | rfl | rfl | rfl | rfl | rfl | rfl | rfl | rfl | rfl | rfl | rfl | rfl | rfl | rfl | rfl | rfl | rfl | rfl | rfl | rfl
  · exact te_ok_0
  · exact te_ok_1
  · exact te_ok_2
  · exact te_ok_3
  · exact te_ok_4
  · exact te_ok_5
  · exact te_ok_6
  · exact te_ok_7
  · exact te_ok_8
  · exact te_ok_9
  · exact te_ok_10
  · exact te_ok_11
  · exact te_ok_12
  · exact te_ok_13
  · exact te_ok_14
  · exact te_ok_15
  · exact te_ok_16
  · exact te_ok_17
  · exact te_ok_18
  · exact te_ok_19
  · exact te_ok_20
  · exact te_ok_21

section
variable {W V : Mat} {g : Nat → Nat → Nat}
theorem block_congr (h : ∀ f x, f < 3 → x < 3 → (W.at f x == W.at x f) = (V.at f x == V.at x f)) {f : Nat} (hf : f < 3) : blockOf W f = blockOf V f := by
  have e : ∀ U : Mat, blockOf U f = (if U.at f 0 == U.at 0 f then [0] else []) ++ ((if U.at f 1 == U.at 1 f then [1] else []) ++ ((if U.at f 2 == U.at 2 f then [2] else []) ++ [])) := fun U => rfl
  rw [e, e, h f 0 hf (by omega), h f 1 hf (by omega), h f 2 hf (by omega)]
theorem due_congr (h : ∀ f x, f < 3 → x < 3 → (W.at f x == W.at x f) = (V.at f x == V.at x f)) (hd : ∀ f, f < 3 → W.at f f = V.at f f) (C : List Nat) : dueAll W C 3 = dueAll V C 3 := by
  have st : ∀ dl f, f < 3 → dueStep W C dl f = dueStep V C dl f := by
    intro dl f hf
    unfold dueStep moreOf
    rw [block_congr h hf, hd f hf]
  have e : ∀ U : Mat, dueAll U C 3 = dueStep U C (dueStep U C (dueStep U C ([1, 0, 0, 0, 0, 0, 0], 0) 0) 1) 2 := fun U => rfl
  rw [e, e, st _ 0 (by omega), st _ 1 (by omega), st _ 2 (by omega)]
theorem unN_le (a b : Nat) : unN a b ≤ 1 := by
  unfold unN
  cases Nat.beq a b <;> decide
theorem keyG_bits (G : GAt W g) : keyG g % 2 = unN (g 0 1) (g 1 0) ∧ keyG g / 2 % 2 = unN (g 0 2) (g 2 0) ∧ keyG g / 4 % 2 = unN (g 1 2) (g 2 1) ∧ keyG g / 8 % 2 = g 0 0 ∧ keyG g / 16 % 2 = g 1 1 ∧ keyG g / 32 % 2 = g 2 2 := by
  have e : keyG g = unN (g 0 1) (g 1 0) + (2 * unN (g 0 2) (g 2 0) + (4 * unN (g 1 2) (g 2 1) + (8 * g 0 0 + (16 * g 1 1 + 32 * g 2 2)))) := rfl
  have h1 := unN_le (g 0 1) (g 1 0)
  have h2 := unN_le (g 0 2) (g 2 0)
  have h3 := unN_le (g 1 2) (g 2 1)
  have h4 := G.bit 0 0
  have h5 := G.bit 1 1
  have h6 := G.bit 2 2
  rw [e]
  omega
theorem un_eq (a b : Nat) : ((((unN a b : Nat) : Int)) == (0 : Int)) = (((a : Nat) : Int) == ((b : Nat) : Int)) := by
  unfold unN
  cases h : Nat.beq a b with
  | true =>
    obtain rfl := Nat.eq_of_beq_eq_true h
    simp
  | false =>
    have := Nat.ne_of_beq_eq_false h
    have h2 : ((a : Int) == (b : Int)) = false := beq_eq_false_iff_ne.mpr fun e => this (Int.ofNat.inj e)
    rw [h2]; rfl
theorem canon_like (G : GAt W g) : (∀ f x, f < 3 → x < 3 → (W.at f x == W.at x f) = ((canonK (keyG g)).at f x == (canonK (keyG g)).at x f)) ∧ ∀ f, f < 3 → W.at f f = (canonK (keyG g)).at f f := by
  obtain ⟨k1, k2, k3, k4, k5, k6⟩ := keyG_bits G
  have c01 : (canonK (keyG g)).at 0 1 = ((keyG g % 2 : Nat) : Int) := rfl
  have c02 : (canonK (keyG g)).at 0 2 = ((keyG g / 2 % 2 : Nat) : Int) := rfl
  have c12 : (canonK (keyG g)).at 1 2 = ((keyG g / 4 % 2 : Nat) : Int) := rfl
  have c00 : (canonK (keyG g)).at 0 0 = ((keyG g / 8 % 2 : Nat) : Int) := rfl
  have c11 : (canonK (keyG g)).at 1 1 = ((keyG g / 16 % 2 : Nat) : Int) := rfl
  have c22 : (canonK (keyG g)).at 2 2 = ((keyG g / 32 % 2 : Nat) : Int) := rfl
  have c10 : (canonK (keyG g)).at 1 0 = 0 := rfl
  have c20 : (canonK (keyG g)).at 2 0 = 0 := rfl
  have c21 : (canonK (keyG g)).at 2 1 = 0 := rfl
  rw [k1] at c01; rw [k2] at c02; rw [k3] at c12; rw [k4] at c00; rw [k5] at c11; rw [k6] at c22
  refine ⟨fun f x hf hx => ?_, fun f hf => ?_⟩
  · rw [G.at_ f x hf hx, G.at_ x f hx hf]
    have hf' : f = 0 ∨ f = 1 ∨ f = 2 := by omega
    have hx' : x = 0 ∨ x = 1 ∨ x = 2 := by omega
    rcases hf' with rfl | rfl | rfl <;> rcases hx' with rfl | rfl | rfl
    · rw [beq_self_eq_true, beq_self_eq_true]
    · rw [c01, c10, un_eq]
    · rw [c02, c20, un_eq]
    · rw [c01, c10, Bool.beq_comm, ← un_eq, Bool.beq_comm]
    · rw [beq_self_eq_true, beq_self_eq_true]
    · rw [c12, c21, un_eq]
    · rw [c02, c20, Bool.beq_comm, ← un_eq, Bool.beq_comm]
    · rw [c12, c21, Bool.beq_comm, ← un_eq, Bool.beq_comm]
    · rw [beq_self_eq_true, beq_self_eq_true]
  · rw [G.at_ f f hf hf]
    have hf' : f = 0 ∨ f = 1 ∨ f = 2 := by omega
    rcases hf' with rfl | rfl | rfl
    · rw [c00]
    · rw [c11]
    · rw [c22]
noncomputable def prT (g : Nat → Nat → Nat) (t : Row4) : Nat := p4 g t.1 t.2.1 t.2.2.1 t.2.2.2
noncomputable def stT (g : Nat → Nat → Nat) (t : Row4) : Nat := s4 g t.1 t.2.1 t.2.2.1 t.2.2.2
noncomputable def chkBags (g : Nat → Nat → Nat) : List (List Nat × List Row4) → List (List Nat) → Bool
  | [], [] => true
  | b :: bs, l :: ls => bif eqN (sortN (b.2.map (prT g))) l then (bif eqN (sortN (b.2.map (stT g))) l then chkBags g bs ls else false) else false
  | _, _ => false
noncomputable def chkTab (g : Nat → Nat → Nat) (k : Nat) : List (Nat × List (List Nat)) → Bool
  | [] => false
  | e :: r => bif Nat.beq k e.1 then chkBags g BR e.2 else chkTab g k r
noncomputable def chk (g : Nat → Nat → Nat) : Bool := bif bipN g T3 then (bif eqN (sortN (T3.map (pc g))) (sortN (T3.map (sc g))) then chkTab g (keyG g) tabT else false) else not (eqN (sortN (T3.map (pc g))) (sortN (T3.map (sc g))))
theorem cond_and {a b : Bool} (h : (bif a then b else false) = true) : a = true ∧ b = true := by
  cases a
  · cases h
  · exact ⟨rfl, h⟩
theorem chkTab_mem {k : Nat} : ∀ {l : List (Nat × List (List Nat))}, chkTab g k l = true → ∃ e ∈ l, e.1 = k ∧ chkBags g BR e.2 = true
  | [], h => by cases h
  | e :: r, h => by
    unfold chkTab at h
    cases hq : Nat.beq k e.1 with
    | true =>
      rw [hq] at h
      exact ⟨e, List.mem_cons_self, (Nat.eq_of_beq_eq_true hq).symm, h⟩
    | false =>
      rw [hq] at h
      obtain ⟨e', he, r'⟩ := chkTab_mem (l := r) h
      exact ⟨e', List.mem_cons_of_mem _ he, r'⟩
theorem bags_both : ∀ {bs : List (List Nat × List Row4)} {ls : List (List Nat)}, chkBags g bs ls = true → rowsOk V bs ls = true → ∀ b ∈ bs, ∃ l, sortN (b.2.map (prT g)) = l ∧ sortN (b.2.map (stT g)) = l ∧ rowOk V b l = true
  | [], _, _, _, b, hb => absurd hb List.not_mem_nil
  | _ :: _, [], h, _, _, _ => by cases h
  | b0 :: bs, l :: ls, h1, h2, b, hb => by
    unfold chkBags at h1
    unfold rowsOk at h2
    obtain ⟨a1, a2⟩ := cond_and h1
    obtain ⟨a2, a3⟩ := cond_and a2
    obtain ⟨b1, b2⟩ := cond_and h2
    rcases List.mem_cons.mp hb with rfl | hb
    · exact ⟨l, eqN_iff.mp a1, eqN_iff.mp a2, b1⟩
    · exact bags_both a3 b2 b hb
theorem plainC (G : GAt W g) (h : chkTab g (keyG g) tabT = true) {C : List Nat} (hC : C ∈ bags) : (ordIter C 4).length < 64 ∧ DueSmall W C ∧ sortI ((ordIter C 4).map (pairsS W)) = dueS W C ∧ sortI ((ordIter C 4).map (stepsS W)) = dueS W C := by
  obtain ⟨e, he, hk, hb⟩ := chkTab_mem h
  have ht := tab_ok e he
  rw [hk] at ht
  rw [← BR_bags] at hC
  obtain ⟨b, hbm, rfl⟩ := List.mem_map.mp hC
  obtain ⟨l, h1, h2, h3⟩ := bags_both hb ht b hbm
  have hbr := List.all_eq_true.mp BR_ok b hbm
  unfold brOk at hbr
  rw [Bool.and_eq_true, Bool.and_eq_true] at hbr
  obtain ⟨⟨q1, q2⟩, q3⟩ := hbr
  have q1 := eq_of_beq q1
  have q3 : b.2.length < 64 := by simpa using q3
  have hlt : ∀ t ∈ b.2, t.1 < 3 ∧ t.2.1 < 3 ∧ t.2.2.1 < 3 ∧ t.2.2.2 < 3 := by
    intro t ht
    have := List.all_eq_true.mp q2 t ht
    simpa [and_assoc] using this
  unfold rowOk at h3
  rw [Bool.and_eq_true] at h3
  obtain ⟨d1, d2⟩ := h3
  have d1 := eq_of_beq d1
  obtain ⟨cl1, cl2⟩ := canon_like G
  have hdue := due_congr cl1 cl2 b.1
  have hS : dueS W b.1 = castL l := by
    rw [← d1]; unfold dueS; rw [hdue]
  have m1 : (b.2.map r4).map (pairsS W) = castL (b.2.map (prT g)) := by
    unfold castL
    rw [List.map_map, List.map_map]
    refine List.map_congr_left fun t ht => ?_
    obtain ⟨x1, x2, x3, x4⟩ := hlt t ht
    exact pairs_4 G x1 x2 x3 x4
  have m2 : (b.2.map r4).map (stepsS W) = castL (b.2.map (stT g)) := by
    unfold castL
    rw [List.map_map, List.map_map]
    refine List.map_congr_left fun t ht => ?_
    obtain ⟨x1, x2, x3, x4⟩ := hlt t ht
    exact steps_4 G x1 x2 x3 x4
  refine ⟨by rw [q1, List.length_map]; exact q3, fun x hx => ?_, ?_, ?_⟩
  · rw [hdue] at hx
    have := List.all_eq_true.mp d2 x hx
    rw [Bool.and_eq_true] at this
    exact ⟨of_decide_eq_true this.1, of_decide_eq_true this.2⟩
  · rw [q1, m1, hS]
    unfold castL
    rw [sortI_nats, h1]
  · rw [q1, m2, hS]
    unfold castL
    rw [sortI_nats, h2]
end
noncomputable def all2 (p : Nat → Bool) : Bool := bif p 0 then p 1 else false
theorem all2_of {p : Nat → Bool} (h : all2 p = true) {n : Nat} (hn : n ≤ 1) : p n = true := by
  obtain ⟨h0, h1⟩ := cond_and h
  have : n = 0 ∨ n = 1 := by omega
  rcases this with rfl | rfl
  · exact h0
  · exact h1
noncomputable def chkFrom (a b c d : Nat) : Bool := all2 fun e => all2 fun f => all2 fun g => all2 fun i => all2 fun j => chk (gm a b c d e f g i j)
end Mine

namespace Mine
open PySem PySem.W PySem.Calls PyProof.Rows

theorem cf_0000 : chkFrom 0 0 0 0 = true := by decide +kernel
theorem cf_0001 : chkFrom 0 0 0 1 = true := by decide +kernel
theorem cf_0010 : chkFrom 0 0 1 0 = true := by decide +kernel
theorem cf_0011 : chkFrom 0 0 1 1 = true := by decide +kernel
theorem cf_0100 : chkFrom 0 1 0 0 = true := by decide +kernel
theorem cf_0101 : chkFrom 0 1 0 1 = true := by decide +kernel
theorem cf_0110 : chkFrom 0 1 1 0 = true := by decide +kernel
theorem cf_0111 : chkFrom 0 1 1 1 = true := by decide +kernel
theorem cf_1000 : chkFrom 1 0 0 0 = true := by decide +kernel
theorem cf_1001 : chkFrom 1 0 0 1 = true := by decide +kernel
theorem cf_1010 : chkFrom 1 0 1 0 = true := by decide +kernel
theorem cf_1011 : chkFrom 1 0 1 1 = true := by decide +kernel
theorem cf_1100 : chkFrom 1 1 0 0 = true := by decide +kernel
theorem cf_1101 : chkFrom 1 1 0 1 = true := by decide +kernel
theorem cf_1110 : chkFrom 1 1 1 0 = true := by decide +kernel
theorem cf_1111 : chkFrom 1 1 1 1 = true := by decide +kernel
theorem chkFrom_of {a b c d e f g i j : Nat} (h : chkFrom a b c d = true) (he : e ≤ 1) (hf : f ≤ 1) (hg : g ≤ 1) (hi : i ≤ 1) (hj : j ≤ 1) : chk (gm a b c d e f g i j) = true := by
  unfold chkFrom at h
  have h := all2_of h he
  have h := all2_of h hf
  have h := all2_of h hg
  have h := all2_of h hi
  have h := all2_of h hj
  exact h
theorem chk_all {a b c d e f g i j : Nat} (h1 : a ≤ 1 ∧ b ≤ 1 ∧ c ≤ 1) (h2 : d ≤ 1 ∧ e ≤ 1 ∧ f ≤ 1) (h3 : g ≤ 1 ∧ i ≤ 1 ∧ j ≤ 1) : chk (gm a b c d e f g i j) = true := by
  obtain ⟨a1, b1, c1⟩ := h1
  obtain ⟨d1, e1, f1⟩ := h2
  obtain ⟨g1, i1, j1⟩ := h3
  have h : chkFrom a b c d = true := by
    have a2 : a = 0 ∨ a = 1 := by omega
    have b2 : b = 0 ∨ b = 1 := by omega
    have c2 : c = 0 ∨ c = 1 := by omega
    have d2 : d = 0 ∨ d = 1 := by omega
    rcases a2 with rfl | rfl <;> rcases b2 with rfl | rfl <;> rcases c2 with rfl | rfl <;> rcases d2 with rfl | rfl
    · exact cf_0000
    · exact cf_0001
    · exact cf_0010
    · exact cf_0011
    · exact cf_0100
    · exact cf_0101
    · exact cf_0110
    · exact cf_0111
    · exact cf_1000
    · exact cf_1001
    · exact cf_1010
    · exact cf_1011
    · exact cf_1100
    · exact cf_1101
    · exact cf_1110
    · exact cf_1111
  exact chkFrom_of h e1 f1 g1 i1 j1
theorem plain1 {W : Mat} (h : Bits W) : (sortP (pairsP W) == sortP (stepsP W)) = bip W := by
  obtain ⟨a, b, c, d, e, f, g, i, j, h1, h2, h3, G⟩ := at_of h
  have hc := chk_all h1 h2 h3
  rw [plainA G, plainB G]
  unfold chk at hc
  cases hb : bipN (gm a b c d e f g i j) T3 with
  | true =>
    rw [hb, cond_true] at hc
    exact (cond_and hc).1
  | false =>
    rw [hb, cond_false] at hc
    exact (Bool.not_eq_true' _).mp hc
theorem bags_small : ((List.range 5).all fun a => (List.range 5).all fun b => (List.range 5).all fun c => !(Nat.beq (a + b + c) 4) || bags.contains [a, b, c]) = true := by decide +kernel
theorem bags_mem {C : List Nat} (h : C.length = 3) (hs : C.sum = 4) : C ∈ bags := by
  match C, h with
  | [a, b, c], _ =>
    have e : a + (b + (c + 0)) = 4 := hs
    have := List.all_eq_true.mp (List.all_eq_true.mp (List.all_eq_true.mp bags_small a (List.mem_range.mpr (by omega))) b (List.mem_range.mpr (by omega))) c (List.mem_range.mpr (by omega))
    have e2 : Nat.beq (a + b + c) 4 = true := by rw [show a + b + c = 4 by omega]; rfl
    rw [e2, Bool.not_true, Bool.false_or] at this
    exact List.contains_iff_mem.mp this
theorem plain2 {W : Mat} (h : Bits W) (hb : bip W = true) {C : List Nat} (hl : C.length = 3) (hs : C.sum = 4) : PlainOk W C := by
  obtain ⟨a, b, c, d, e, f, g, i, j, h1, h2, h3, G⟩ := at_of h
  have hc := chk_all h1 h2 h3
  unfold chk at hc
  rw [plainB G] at hb
  rw [hb, cond_true] at hc
  obtain ⟨a1, a2, a3, a4⟩ := plainC G (cond_and hc).2 (bags_mem hl hs)
  rw [← hs] at a1 a3 a4
  exact ⟨a1, a2, a3, a4⟩
end Mine

namespace Mine
open PySem PySem.W PySem.Calls PyProof.Rows

section
variable {prog : Program} {w : World} {hB : Heap} {mg mb : Str → Option Value}
theorem drawnOf_facts {NS : List Int} (h5 : NS.length = 5) : (drawnOf NS).length = 3 ∧ ∀ x ∈ drawnOf NS, x < 8 := by
  constructor
  · match NS, h5 with
    | [a, b, c, d, e], _ => rfl
  · intro x hx
    unfold drawnOf at hx
    obtain ⟨n, _, rfl⟩ := List.mem_map.mp hx
    have h1 : 0 ≤ n.fmod 8 := Int.fmod_nonneg_of_pos n (by omega)
    have h2 : n.fmod 8 < 8 := Int.fmod_lt_of_pos n (by omega)
    omega
/-- the law says True -/
theorem fn_law (T : Top prog w hB mg mb) {ns : List Int} (hn : ns.length ≤ 1000) : Fn prog w hB mg 7 "law" [.list (iL ns)] (.bool true) := by
  refine fn1 T.defs T.glob (d := defAt 25) (x := "script") (by simp [defs]) (fun _ _ _ _ => rfl) (by decide +kernel) rfl rfl rfl fun L a cd => ?_
  refine law_p1 T hn fun NS xs hNS hxs => ?_
  have h5 : NS.length = 5 := by rw [hNS]; simp [numsOf]
  obtain ⟨hx3, hx8⟩ := drawnOf_facts h5
  rw [← hxs] at hx3 hx8
  have hB' := wrongOf_bits (n := NS.getD 3 0) hx3
  refine law_p2 T (by omega) hx8 (law_p3 T h5 hx3 hx8 (law_p4 T hB'.ok (plain1 hB') fun hb => law_p5 T h5 hB'.ok (plain2 hB' hb (by simp [bagOf]) ?_)))
  rw [bagOf_sum _ (figOf_lt _), figOf_len]
end
end Mine

namespace Mine
open PySem PySem.W PySem.Calls PyProof.Rows

/-- a pair of trees that lay an int and a string -/
structure CP (prog : Program) (w : World) (p : Sem Value × Sem Value) (kv : Int × Str) : Prop where
  key : ∀ (A : Around) (E : Value → Shared → Prop) (s : Shared) (Q : Value → Shared → Prop), Q (.int kv.1 s.toks) { s with toks := s.toks + 1 } → wpAny (model prog w) A p.1 Q E s
  val : ∀ (A : Around) (E : Value → Shared → Prop) (s : Shared) (Q : Value → Shared → Prop), Q (.str kv.2 s.toks) { s with toks := s.toks + 1 } → wpAny (model prog w) A p.2 Q E s
noncomputable def CPs (prog : Program) (w : World) : List (Sem Value × Sem Value) → List (Int × Str) → Prop
  | [], [] => True
  | p :: ps, kv :: kvs => CP prog w p kv ∧ CPs prog w ps kvs
  | _, _ => False
/-- the dict's pairs bear these strings -/
noncomputable def VS : List (Int × Value) → List (Int × Str) → Prop
  | [], [] => True
  | a :: r, b :: r' => a.1 = b.1 ∧ (∃ t, a.2 = .str b.2 t) ∧ VS r r'
  | _, _ => False
theorem VS.keys : ∀ {a : List (Int × Value)} {b : List (Int × Str)}, VS a b → a.map (·.1) = b.map (·.1)
  | [], [], _ => rfl
  | a :: r, b :: r', ⟨e, _, h⟩ => by rw [List.map_cons, List.map_cons, e, VS.keys h]
  | [], _ :: _, h => h.elim
  | _ :: _, [], h => h.elim
theorem VS.length {a : List (Int × Value)} {b : List (Int × Str)} (h : VS a b) : a.length = b.length := by
  have := congrArg List.length h.keys
  simpa using this
theorem VS.append : ∀ {a : List (Int × Value)} {b : List (Int × Str)} {c : List (Int × Value)} {d : List (Int × Str)}, VS a b → VS c d → VS (a ++ c) (b ++ d)
  | [], [], _, _, _, h => h
  | _ :: _, _ :: _, _, _, ⟨e, t, h⟩, h2 => ⟨e, t, VS.append h h2⟩
  | [], _ :: _, _, _, h, _ => h.elim
  | _ :: _, [], _, _, h, _ => h.elim
theorem CPs.append {prog w} : ∀ {a : List (Sem Value × Sem Value)} {b : List (Int × Str)} {c d}, CPs prog w a b → CPs prog w c d → CPs prog w (a ++ c) (b ++ d)
  | [], [], _, _, _, h => h
  | _ :: _, _ :: _, _, _, ⟨e, h⟩, h2 => ⟨e, CPs.append h h2⟩
  | [], _ :: _, _, _, h, _ => h.elim
  | _ :: _, [], _, _, h, _ => h.elim
theorem CPs.length {prog w} : ∀ {a : List (Sem Value × Sem Value)} {b : List (Int × Str)}, CPs prog w a b → a.length = b.length
  | [], [], _ => rfl
  | _ :: _, _ :: _, ⟨_, h⟩ => by rw [List.length_cons, List.length_cons, CPs.length h]
  | [], _ :: _, h => h.elim
  | _ :: _, [], h => h.elim

section
variable {prog : Program} {w : World} {A : Around} {E : Value → Shared → Prop} {s : Shared}

theorem eval_pairs : ∀ {ps : List (Sem Value × Sem Value)} {kvs : List (Int × Str)} {s : Shared} {Q : List (Value × Value) → Shared → Prop}, CPs prog w ps kvs →
    (∀ vs ks tk, Carries (intKind prog w) vs ks → VS ks kvs → s.toks ≤ tk → Q vs { s with toks := tk }) → wpAny (model prog w) A (evalPairs ps) Q E s
  | [], [], s, Q, _, h => wpAny_pure (h [] [] s.toks trivial trivial (Nat.le_refl _))
  | (k, v) :: ps, kv :: kvs, s, Q, ⟨c, cs⟩, h => by
    rw [evalPairs]
    refine wpAny_bind (c.key _ _ _ _ (wpAny_bind (wpAny_holding (c.val _ _ _ _ (wpAny_bind (wpAny_holding (eval_pairs cs fun vs ks tk h1 h2 h3 => wpAny_pure ?_)))))))
    refine h _ ((kv.1, .str kv.2 (s.toks + 1)) :: ks) tk ⟨intKind_is prog w _ _, rfl, h1⟩ ⟨rfl, ⟨_, rfl⟩, h2⟩ ?_
    have h3' : s.toks + 1 + 1 ≤ tk := h3
    omega
  | [], _ :: _, _, _, h, _ => h.elim
  | _ :: _, [], _, _, h, _ => h.elim

theorem size_ok' {n : Nat} (h : n ≤ 1000000) : n ≤ sizeLine := Nat.le_trans h (by decide +kernel)
/-- a fresh dict that bears the pairs -/
noncomputable def DictAt (prog : Program) (w : World) (h : Heap) (d : Addr) (kvs : List (Int × Str)) : Prop := ∃ ks, h.DictOf (intKind prog w) d ks ∧ VS ks kvs

theorem fresh_not {acc : List (Int × Value)} {kv : Int × Value} (h : kv.1 ∉ acc.map (·.1)) : stored acc kv.1 kv.2 = acc ++ [(kv.1, kv.2)] := by
  unfold stored
  rw [if_neg]
  intro hh
  obtain ⟨x, hx, e⟩ := List.any_eq_true.mp hh
  exact h (List.mem_map.mpr ⟨x, hx, of_decide_eq_true e⟩)

theorem store_long {d : Addr} : ∀ {ps : List (Sem Value × Sem Value)} {kvs : List (Int × Str)} {acc : List (Int × Value)} {s : Shared} {Q : PUnit → Shared → Prop}, CPs prog w ps kvs → s.heap.DictOf (intKind prog w) d acc → (acc.map (·.1) ++ kvs.map (·.1)).Nodup → acc.length + kvs.length ≤ sizeLine →
    (∀ ks h' tk, h'.DictOf (intKind prog w) d (acc ++ ks) → VS ks kvs → Heap.SameBut d s.heap h' → s.toks ≤ tk → Q PUnit.unit { s with heap := h', toks := tk }) →
    wpAny (model prog w) A (forIn ps PUnit.unit fun (x : Sem Value × Sem Value) (_ : PUnit) => (do let kv ← x.1; let vv ← holding [kv] x.2; holding [kv, vv] (dictSet d kv vv); pure (ForInStep.yield PUnit.unit) : Sem (ForInStep PUnit))) Q E s
  | [], [], acc, s, Q, _, hm, _, _, h => by
    rw [List.forIn_nil]
    exact wpAny_pure (by simpa using h [] s.heap s.toks (by simpa using hm) trivial (Heap.SameBut.refl _ _) (Nat.le_refl _))
  | p :: ps, kv :: kvs, acc, s, Q, ⟨c, cs⟩, hm, hn, hsz, h => by
    rw [List.forIn_cons]
    rw [List.length_cons] at hsz
    have hnew : kv.1 ∉ acc.map (·.1) := fun hh => by
      rw [List.map_cons] at hn
      exact (List.nodup_append.mp hn).2.2 _ hh _ List.mem_cons_self rfl
    refine wpAny_bind (wpAny_bind (c.key _ _ _ _ (wpAny_bind (wpAny_holding (c.val _ _ _ _ (wpAny_bind (wpAny_holding (wpAny_dictSet_pairs (hsz := by omega) (intKind_is prog w kv.1 s.toks) hm fun h₁ hm₁ hs₁ => wpAny_pure ?_))))))))
    rw [fresh_not (kv := (kv.1, Value.str kv.2 (s.toks + 1))) hnew] at hm₁
    refine store_long cs hm₁ ?_ ?_ fun ks h' tk a1 a2 a3 a4 => ?_
    · rw [List.map_append, List.append_assoc]; simpa using hn
    · rw [List.length_append, List.length_singleton]; omega
    · have := h ((kv.1, .str kv.2 (s.toks + 1)) :: ks) h' tk (by simpa using a1) ⟨rfl, ⟨_, rfl⟩, a2⟩ (hs₁.trans a3) (Nat.le_trans (by show s.toks ≤ s.toks + 1 + 1 + 1; omega) a4)
      exact this
  | [], _ :: _, _, _, _, h, _, _, _, _ => h.elim
  | _ :: _, [], _, _, _, h, _, _, _, _ => h.elim

theorem sub_dict {ps : List (Sem Value × Sem Value)} {kvs : List (Int × Str)} {Q : Addr → Shared → Prop} (hc : CPs prog w ps kvs) (hn : (kvs.map (·.1)).Nodup) (hl : ps.length ≤ 17)
    (h : ∀ h' tk, DictAt prog w h' s.heap.objs.size kvs → (∀ b o, s.heap.get? b = some o → h'.get? b = some o) → s.toks ≤ tk → Q s.heap.objs.size { s with heap := h', toks := tk }) : wpAny (model prog w) A (subDict ps) Q E s := by
  have hlen := hc.length
  have hD : (s.heap.push { cls := .type "dict", data := .dict #[] }).DictOf (intKind prog w) s.heap.objs.size [] := Heap.DictOf.new _
  have hk : ∀ h', Heap.SameBut s.heap.objs.size (s.heap.push { cls := .type "dict", data := .dict #[] }) h' → ∀ b o, s.heap.get? b = some o → h'.get? b = some o := fun h' hs b o e =>
    (hs.2 b (Nat.ne_of_lt (Heap.lt_size e))).trans (Heap.get?_push_of_some _ e)
  unfold subDict
  refine wpAny_bind (wpAny_alloc ?_)
  refine wpAny_bind (wpAny_holding ?_)
  split
  · refine wpAny_bind (eval_pairs hc fun vs ks tk h1 h2 h3 => wpAny_holding ?_)
    have e1 := h1.length
    have e2 := h2.length
    refine wpAny_bind (wpAny_storeAll (knd := intKind prog w) vs ks [] _ _ h1 hD (size_ok' (by simp; omega)) fun h' hm' hs' => wpAny_pure (wpAny_pure ?_))
    rw [merged_nil_of_nodup ks (by rw [h2.keys]; exact hn)] at hm'
    exact h h' _ ⟨ks, hm', h2⟩ (hk h' hs') (by show s.toks ≤ tk + vs.length; have h3' : s.toks ≤ tk := h3; omega)
  · refine wpAny_bind (wpAny_rule (wpAny_bind (store_long hc hD (by simpa using hn) (size_ok' (by simp; omega)) fun ks h' tk a1 a2 a3 a4 => wpAny_pure (wpAny_pure ?_))))
    exact h h' tk ⟨ks, by simpa using a1, a2⟩ (hk h' a3) a4

theorem put_fresh {d : Addr} {acc : List (Int × Value)} {k : Int} {key v : Value} {Q : Unit → Shared → Prop} (hkey : (intKind prog w).is k key = true) (hm : s.heap.DictOf (intKind prog w) d acc) (hnew : k ∉ acc.map (·.1)) (hsz : acc.length ≤ sizeLine)
    (hQ : ∀ h', h'.DictOf (intKind prog w) d (acc ++ [(k, v)]) → Heap.SameBut d s.heap h' → Q () { s with heap := h' }) : wpAny (model prog w) A (dictPut d ((intKind prog w).hash k) key v) Q E s := by
  obtain ⟨o, es, ep, ho, hc, hd, hk, hp, hn⟩ := hm
  have hes : es.size ≤ sizeLine := by
    have e1 := hp.length
    have e2 : es.toList.length = es.size := by simp
    omega
  unfold dictPut
  refine wpAny_bind (wpAny_dictFind_of hkey ho hd hk ?_)
  have hidx : (es.findIdx? fun e => (intKind prog w).is k e.key) = acc.findIdx? fun kv => decide (kv.1 = k) := by
    rw [← hp.findIdx k]; obtain ⟨l⟩ := es; simp
  have hnone : (es.findIdx? fun e => (intKind prog w).is k e.key) = none := by
    rw [hidx, List.findIdx?_eq_none_iff]
    intro x hx
    simp only [decide_eq_false_iff_not]
    exact fun e => hnew (List.mem_map.mpr ⟨x, hx, e⟩)
  rw [hnone]
  refine wpAny_updateDictKeys (hz := hes) ho hd (hQ _ ⟨_, _, ep + 1, Heap.get?_update_self _ ho (Obj.isFreed_of_dict (Obj.data_mapDictKeys hd _)),
      hc.mapDictKeys _, Obj.data_mapDictKeys hd _, hk.push hkey _, ?_, ?_⟩ (Heap.SameBut.update ..))
  · have := hp.append hkey ((intKind prog w).hash k) v
    obtain ⟨l⟩ := es
    simpa using this
  · rw [List.map_append, List.nodup_append]
    refine ⟨hn, by simp, ?_⟩
    intro a ha b hb
    simp only [List.map_cons, List.map_nil, List.mem_singleton] at hb
    subst hb
    exact fun e => hnew (e ▸ ha)
end
end Mine

namespace Mine
open PySem PySem.W PySem.Calls PyProof.Rows

section
variable {prog : Program} {w : World} {A : Around} {E : Value → Shared → Prop} {s : Shared}

theorem merge_fresh {d o : Addr} {acc more : List (Int × Value)} {Q : Unit → Shared → Prop} (hdo : d ≠ o) (hoS : (o == sysModules) = false) (hd : s.heap.DictOf (intKind prog w) d acc) (ho : s.heap.DictOf (intKind prog w) o more)
    (hne : acc ≠ []) (hnd : (acc.map (·.1) ++ more.map (·.1)).Nodup) (hsz : acc.length + more.length ≤ sizeLine)
    (hQ : ∀ h', h'.DictOf (intKind prog w) d (acc ++ more) → Heap.SameBut d s.heap h' → Q () { s with heap := h' }) : wpAny (model prog w) A (mergeMapping d (.ref o) false) Q E s := by
  obtain ⟨od, esd, epd, hod, hcd, hdd, hkd, hpd, hnd1⟩ := id hd
  obtain ⟨oo, eso, epo, hoo, hco, hdo', hko, hpo, hno⟩ := id ho
  have hlen : more.length = eso.size := by rw [← hpo.length]; simp
  unfold mergeMapping
  refine wpAny_bind (wpAny_isInstance ho.typeIs isSubtype_dict_dict ?_)
  dsimp only
  rw [if_pos rfl]
  refine wpAny_bind (wpAny_specialOf ho.typeIs F.slot_dict_iter.lookup (wpAny_bind (wpAny_pure ?_)))
  simp only [beq_self_eq_true]
  rw [if_neg (by rw [hoS]; exact Bool.false_ne_true)]
  refine wpAny_bind (wpAny_dictEntries hod hdd ?_)
  rw [if_neg (by
    intro hh
    have h0 : esd = #[] := Array.isEmpty_iff.mp hh
    have := hpd.length; rw [h0] at this
    exact hne (List.length_eq_zero_iff.mp (by simpa using this.symm)))]
  refine wpAny_bind (wpAny_dictEntries hoo hdo' ?_)
  refine wpAny_bind (wpAny_dictEpoch hoo hdo' ?_)
  refine wpAny_bind ?_
  refine wpAny_forIn_list _
      (fun rest _ s' => ∃ h' i, s' = { s with heap := h' } ∧ rest = List.range' i (eso.size - i) ∧ i ≤ eso.size ∧ h'.DictOf (intKind prog w) d (acc ++ more.take i) ∧ h'.get? o = some oo ∧ Heap.SameBut d s.heap h')
      _ ?_ ?_ _ _ ⟨s.heap, 0, rfl, by simp [List.range_eq_range'], Nat.zero_le _, by simpa using hd, hoo, Heap.SameBut.refl _ _⟩
  · rintro x rest b s' ⟨h', i, rfl, hr, hi, hd', hoo', hs'⟩
    have hlt : i < eso.size := by
      rcases Nat.lt_or_ge i eso.size with h | h
      · exact h
      · rw [Nat.sub_eq_zero_of_le h] at hr; simp at hr
    obtain ⟨rfl, hrest⟩ : x = i ∧ rest = List.range' (i + 1) (eso.size - (i + 1)) := by
      have e : eso.size - i = (eso.size - (i + 1)) + 1 := by omega
      rw [e, List.range'_succ] at hr
      injection hr with h1 h2
      exact ⟨h1, h2⟩
    refine wpAny_bind (wpAny_dictEntries hoo' hdo' ?_)
    rw [Array.getElem?_eq_getElem hlt]
    have hxm : x < more.length := by rw [hlen]; exact hlt
    obtain ⟨kv, hkv⟩ : ∃ kv, more[x]? = some kv := ⟨more[x], List.getElem?_eq_getElem _⟩
    obtain ⟨k, v⟩ := kv
    obtain ⟨hkey, hval⟩ := hpo.get? (e := eso[x]) (by simp [hlt]) hkv
    obtain ⟨k', hkey', hhash⟩ := hko eso[x] (Array.getElem_mem hlt)
    obtain rfl : k' = k := (intKind prog w).inj _ _ _ hkey' hkey
    have htake : more.take (x + 1) = more.take x ++ [(k', v)] := by
      rw [List.take_succ, hkv]; rfl
    have hsub : (acc.map (·.1) ++ (more.take (x + 1)).map (·.1)).Nodup := by
      refine List.Nodup.sublist ?_ hnd
      exact List.Sublist.append_left ((List.take_sublist _ _).map _) _
    have hnew : k' ∉ (acc ++ more.take x).map (·.1) := by
      rw [htake, List.map_append, ← List.append_assoc, ← List.map_append] at hsub
      intro hh
      exact (List.nodup_append.mp hsub).2.2 _ hh _ (by simp) rfl
    have hl1 : (acc ++ more.take x).length ≤ sizeLine := by
      rw [List.length_append, List.length_take]; omega
    dsimp only
    rw [hhash, hval]
    refine wpAny_bind (wpAny_holding ?_)
    refine put_fresh hkey hd' hnew hl1 fun h'' hd'' hs'' => ?_
    have hoo'' : h''.get? o = some oo := (hs''.2 o (Ne.symm hdo)).trans hoo'
    refine wpAny_bind (wpAny_dictEpoch hoo'' hdo' ?_)
    rw [if_neg (by simp)]
    refine wpAny_pure ⟨h'', x + 1, rfl, hrest, hlt, by rw [htake, ← List.append_assoc]; exact hd'', hoo'', hs'.trans hs''⟩
  · rintro b s' ⟨h', i, rfl, hr, hi, hd', hoo', hs'⟩
    have hin : i = eso.size := by
      rcases Nat.lt_or_ge i eso.size with h | h
      · have e : eso.size - i = (eso.size - (i + 1)) + 1 := by omega
        rw [e, List.range'_succ] at hr; exact nomatch hr
      · exact Nat.le_antisymm hi h
    refine wpAny_pure (hQ h' ?_ hs')
    rw [hin, ← hlen, List.take_length] at hd'
    exact hd'
end
end Mine

namespace Mine
open PySem PySem.W PySem.Calls PyProof.Rows
section
variable {prog : Program} {w : World} {A : Around} {E : Value → Shared → Prop} {s s0 : Shared}

/-- the part of a display that is laid -/
structure DSt (prog : Program) (w : World) (s0 s : Shared) (m : Option Addr) (acc : List (Int × Str)) : Prop where
  same : s = { s0 with heap := s.heap, toks := s.toks }
  keep : ∀ b o, s0.heap.get? b = some o → s.heap.get? b = some o
  size : s0.heap.objs.size ≤ s.heap.objs.size
  toks : s0.toks ≤ s.toks
  none : m = none → acc = []
  some : ∀ d, m = some d → s0.heap.objs.size ≤ d ∧ d < s.heap.objs.size ∧ DictAt prog w s.heap d acc ∧ acc ≠ []

noncomputable def flushD (run : List (Sem Value × Sem Value)) (main : Option Addr) : Sem (Option Addr) :=
  if run.isEmpty = true then pure main
  else
    match main with
    | none => do
      let d ← subDict run
      pure (some d)
    | some d => do
      let sub ← holding [Value.ref d] (subDict run)
      (holding [Value.ref d, Value.ref sub] (mergeMapping d (Value.ref sub) false)).onRaise fun x => do
        let _ ← holding [Value.ref d, x] (runValue (Code.builtin "proto.let_go" { }))
        pure ()
      pure (some d)

theorem flush_ok {m : Option Addr} {acc rk : List (Int × Str)} {run : List (Sem Value × Sem Value)} {Q : Option Addr → Shared → Prop} (h2 : 2 ≤ s0.heap.objs.size) (S : DSt prog w s0 s m acc) (hc : CPs prog w run rk) (hr : run ≠ [])
    (hl : run.length ≤ 17) (hn : (acc.map (·.1) ++ rk.map (·.1)).Nodup) (hsz : acc.length + rk.length ≤ 100000) (h : ∀ s' d, DSt prog w s0 s' (some d) (acc ++ rk) → Q (some d) s') : wpAny (model prog w) A (flushD run m) Q E s := by
  have hrk : rk ≠ [] := fun e => hr (List.length_eq_zero_iff.mp (by rw [hc.length, e]; rfl))
  have hn2 : (rk.map (·.1)).Nodup := (List.nodup_append.mp hn).2.1
  unfold flushD
  rw [if_neg (by simpa using hr)]
  cases m with
  | none =>
    have ha : acc = [] := S.none rfl
    subst ha
    refine wpAny_bind (sub_dict hc hn2 hl fun h' tk hd hk ht => wpAny_pure ?_)
    have hlt : s.heap.objs.size < h'.objs.size := by
      obtain ⟨ks, ⟨o, _, _, ho, _⟩, _⟩ := hd
      exact Heap.lt_size ho
    refine h _ _ ⟨by rw [S.same], fun b o e => hk b o (S.keep b o e), Nat.le_trans S.size (Nat.le_of_lt hlt), Nat.le_trans S.toks ht, (fun e => nomatch e), fun d e => ?_⟩
    cases e
    exact ⟨S.size, hlt, hd, hrk⟩
  | some d =>
    obtain ⟨hd0, hd1, ⟨ks, hD, hV⟩, hacc⟩ := S.some d rfl
    dsimp only
    refine wpAny_bind (wpAny_holding (sub_dict hc hn2 hl fun h' tk hd hk ht => ?_))
    obtain ⟨ks2, hD2, hV2⟩ := hd
    have hlt : s.heap.objs.size < h'.objs.size := by
      obtain ⟨o, _, _, ho, _⟩ := hD2
      exact Heap.lt_size ho
    have hsz' : ks.length + ks2.length ≤ sizeLine := by
      rw [hV.length, hV2.length]
      exact size_ok' (by omega)
    refine wpAny_bind (wpAny_onRaise (wpAny_holding ?_))
    refine merge_fresh (s := { s with heap := h', toks := tk }) (Nat.ne_of_lt hd1) ?_ (hD.keep hk) hD2 ?_ ?_ hsz' fun h'' hd'' hs'' => wpAny_pure ?_
    · have : s.heap.objs.size ≠ 1 := by have := S.size; omega
      exact beq_eq_false_iff_ne.mpr this
    · intro e
      subst e
      exact hacc (List.length_eq_zero_iff.mp (by rw [← hV.length]; rfl))
    · rw [hV.keys, hV2.keys]; exact hn
    · have hsize : h''.objs.size = h'.objs.size := hs''.1
      refine h _ _ ⟨by rw [S.same], fun b o e => ?_, ?_, Nat.le_trans S.toks ht, (fun e => nomatch e), fun d' e => ?_⟩
      · refine (hs''.2 b ?_).trans (hk b o (S.keep b o e))
        intro e2
        subst e2
        exact Nat.not_lt.mpr hd0 (Heap.lt_size e)
      · show s0.heap.objs.size ≤ h''.objs.size
        have := S.size
        omega
      · cases e
        refine ⟨hd0, ?_, ⟨_, hd'', hV.append hV2⟩, by simp [hacc]⟩
        show d < h''.objs.size
        exact Nat.lt_of_lt_of_eq (Nat.lt_trans hd1 hlt) hsize.symm

theorem loop_ok (f : (Option (Sem Value) × Sem Value) → (Option Addr × List (Sem Value × Sem Value)) → Sem (ForInStep (Option Addr × List (Sem Value × Sem Value))))
    (hf : ∀ (p : Sem Value × Sem Value) m run, f (some p.1, p.2) (m, run) = if ((run ++ [p]).length == 17) = true then (do let main ← flushD (run ++ [p]) m; pure (ForInStep.yield (main, []))) else pure (ForInStep.yield (m, run ++ [p])))
    (h2 : 2 ≤ s0.heap.objs.size) : ∀ {ps : List (Sem Value × Sem Value)} {kvs acc rk : List (Int × Str)} {m : Option Addr} {run : List (Sem Value × Sem Value)} {s : Shared} {Q : (Option Addr × List (Sem Value × Sem Value)) → Shared → Prop},
    DSt prog w s0 s m acc → CPs prog w run rk → run.length < 17 → CPs prog w ps kvs → (acc.map (·.1) ++ (rk.map (·.1) ++ kvs.map (·.1))).Nodup → acc.length + (rk.length + kvs.length) ≤ 100000 →
    (∀ s' m' acc' run' rk', DSt prog w s0 s' m' acc' → CPs prog w run' rk' → run'.length < 17 → acc' ++ rk' = acc ++ (rk ++ kvs) → Q (m', run') s') →
    wpAny (model prog w) A (forIn (ps.map fun p => (some p.1, p.2)) (m, run) f) Q E s
  | [], [], acc, rk, m, run, s, Q, S, hr, hl, _, _, _, h => by
    rw [List.map_nil, List.forIn_nil]
    exact wpAny_pure (h s m acc run rk S hr hl (by simp))
  | p :: ps, kv :: kvs, acc, rk, m, run, s, Q, S, hr, hl, ⟨c, cs⟩, hn, hsz, h => by
    rw [List.map_cons, List.forIn_cons, hf]
    rw [List.length_cons] at hsz
    have hr' : CPs prog w (run ++ [p]) (rk ++ [kv]) := hr.append ⟨c, trivial⟩
    have hn' : (acc.map (·.1) ++ ((rk ++ [kv]).map (·.1) ++ kvs.map (·.1))).Nodup := by simpa using hn
    have hll : (run ++ [p]).length = run.length + 1 := by simp
    have hrl : (rk ++ [kv]).length = rk.length + 1 := by simp
    split
    · refine wpAny_bind (wpAny_bind (flush_ok h2 S hr' (by simp) (by omega) ?_ (by omega) fun s' d S' => wpAny_pure ?_))
      · rw [← List.append_assoc] at hn'
        exact (List.nodup_append.mp hn').1
      · refine loop_ok f hf h2 (acc := acc ++ (rk ++ [kv])) (rk := []) S' trivial (by decide) cs ?_ ?_ fun s' m' acc' run' rk' a b c d => h s' m' acc' run' rk' a b c ?_
        · rw [List.map_append]; simpa using hn
        · rw [List.length_append, hrl, List.length_nil]; omega
        · rw [d]; simp
    · rename_i hne
      refine wpAny_bind (wpAny_pure ?_)
      refine loop_ok f hf h2 (acc := acc) (rk := rk ++ [kv]) S hr' ?_ cs hn' ?_ fun s' m' acc' run' rk' a b c d => h s' m' acc' run' rk' a b c ?_
      · have : (run ++ [p]).length ≠ 17 := by simpa using hne
        omega
      · rw [hrl]; omega
      · rw [d]; simp
  | [], _ :: _, _, _, _, _, _, _, _, _, _, h, _, _, _ => h.elim
  | _ :: _, [], _, _, _, _, _, _, _, _, _, h, _, _, _ => h.elim

theorem display_fresh {ps : List (Sem Value × Sem Value)} {kvs : List (Int × Str)} {Q : Value → Shared → Prop} (h2 : 2 ≤ s.heap.objs.size) (hc : CPs prog w ps kvs) (h0 : ps ≠ []) (hn : (kvs.map (·.1)).Nodup) (hsz : kvs.length ≤ 100000)
    (h : ∀ h' tk d, DictAt prog w h' d kvs → s.heap.objs.size ≤ d → (∀ b o, s.heap.get? b = some o → h'.get? b = some o) → s.heap.objs.size ≤ h'.objs.size → s.toks ≤ tk → Q (.ref d) { s with heap := h', toks := tk }) :
    wpAny (model prog w) A (dictDisplay (ps.map fun p => (some p.1, p.2))) Q E s := by
  have hk0 : kvs ≠ [] := fun e => h0 (List.length_eq_zero_iff.mp (by rw [hc.length, e]; rfl))
  have fin : ∀ s' d, DSt prog w s s' (some d) kvs → Q (.ref d) s' := fun s' d S => by
    obtain ⟨a, _, b, _⟩ := S.some d rfl
    rw [S.same]
    exact h _ _ _ b a S.keep S.size S.toks
  unfold dictDisplay
  dsimp only
  refine wpAny_bind (loop_ok (s0 := s) _ (fun p m run => ?_) h2 (acc := []) (rk := []) ⟨rfl, fun _ _ e => e, Nat.le_refl _, Nat.le_refl _, fun _ => rfl, (fun d e => nomatch e)⟩ trivial (by decide) hc (by simpa using hn) (by simpa using hsz) fun s' m acc run rk S hr hl he => ?_)
  · rfl
  · have he' : acc ++ rk = kvs := by simpa using he
    refine wpAny_bind (?_ : wpAny _ _ (flushD run m) _ _ _)
    by_cases hr0 : run = []
    · subst hr0
      have hrk0 : rk = [] := List.length_eq_zero_iff.mp hr.length.symm
      subst hrk0
      rw [List.append_nil] at he'
      subst he'
      show wpAny _ _ (pure m) _ _ _
      refine wpAny_pure ?_
      cases m with
      | none => exact absurd (S.none rfl) hk0
      | some d => exact wpAny_pure (fin _ _ S)
    · refine flush_ok h2 S hr hr0 (Nat.le_of_lt hl) (by rw [← List.map_append, he']; exact hn) (by rw [← List.length_append, he']; exact hsz) fun s'' d S'' => ?_
      rw [he'] at S''
      exact wpAny_pure (fin _ _ S'')
end
end Mine

namespace Mine
open PySem PySem.W PySem.Calls PyProof.Rows
section
variable {prog : Program} {w : World} {A : Around} {E : Value → Shared → Prop} {s : Shared} {env : Env}

/-- the pairs that a display of constants lays, by its shape -/
noncomputable def kvOf : List (Option Expr) → List Expr → Option (List (Int × Str))
  | [], [] => some []
  | k :: ks, v :: vs => match k, v with
    | some (.Constant (.int i) _ _), .Constant (.str x) _ _ => (kvOf ks vs).map ((i, x) :: ·)
    | _, _ => none
  | _, _ => none

theorem kvOf_ok {pos : Pos} : ∀ {ks : List (Option Expr)} {vs : List Expr} {kvs : List (Int × Str)}, kvOf ks vs = some kvs → ks.all (·.isSome) = true ∧ ks.length = vs.length ∧ CPs prog w (pairTrees ks vs env pos) kvs := by
  intro ks
  induction ks with
  | nil =>
    intro vs kvs h
    cases vs with
    | nil => cases h; exact ⟨rfl, rfl, trivial⟩
    | cons _ _ => cases h
  | cons k ks ih =>
    intro vs kvs h
    cases vs with
    | nil => cases h
    | cons v vs =>
    unfold kvOf at h
    split at h
    · rename_i i n1 p1 x n2 p2
      obtain ⟨r, hr, rfl⟩ := Option.map_eq_some_iff.mp h
      obtain ⟨h1, h2, h3⟩ := ih hr
      refine ⟨by simpa using h1, by simp [h2], ?_⟩
      refine ⟨⟨fun A E s Q h => ?_, fun A E s Q h => ?_⟩, h3⟩
      · show wpAny _ _ (eval (.Constant (.int i) n1 p1) env) _ _ _
        rw [arm_eval_Constant]
        exact wpAny_mkInt h
      · show wpAny _ _ (eval (.Constant (.str x) n2 p2) env >>= fun x => (standAt pos >>= fun _ => pure x)) _ _ _
        rw [arm_eval_Constant]
        exact wpAny_bind (wpAny_mkText (wpAny_bind (wpAny_standAt (wpAny_pure h))))
    · cases h

theorem ev_dict_const {keys : List (Option Expr)} {values : List Expr} {pos : Pos} {kvs : List (Int × Str)} {Q : Value → Shared → Prop} (hk : kvOf keys values = some kvs) (h2 : 2 ≤ s.heap.objs.size) (h0 : kvs ≠ []) (hn : (kvs.map (·.1)).Nodup) (hsz : kvs.length ≤ 100000)
    (h : ∀ h' tk d, DictAt prog w h' d kvs → s.heap.objs.size ≤ d → (∀ b o, s.heap.get? b = some o → h'.get? b = some o) → s.heap.objs.size ≤ h'.objs.size → s.toks ≤ tk → Q (.ref d) { s with heap := h', toks := tk }) :
    wpAny (model prog w) A (eval (.Dict keys values pos) env) Q E s := by
  obtain ⟨ha, hl, hc⟩ := kvOf_ok (prog := prog) (w := w) (env := env) (pos := pos) hk
  rw [arm_eval_Dict, zip_pairTrees keys values env pos ha hl]
  refine wpAny_bind (wpAny_standAt (display_fresh h2 hc ?_ hn hsz h))
  intro e
  exact h0 (List.length_eq_zero_iff.mp (by rw [← hc.length, e]; rfl))
end
end Mine

namespace Mine
open PySem PySem.W PySem.Calls PyProof.Rows
noncomputable def dictAt (j : Nat) : Option (List (Option Expr) × List Expr × Pos) := (pw.main.body[j]?).bind fun st => match st with
  | .Assign _ (.Dict ks vs p) _ => some (ks, vs, p)
  | _ => none
noncomputable def kvB3 : List (Int × Str) := ((dictAt 1).bind fun d => kvOf d.1 d.2.1).getD []
noncomputable def incr : List (Int × Str) → Bool
  | [] => true
  | a :: r => (match r with | b :: _ => decide (a.1 < b.1) | [] => true) && incr r
theorem incr_lt : ∀ {a : Int × Str} {r : List (Int × Str)}, incr (a :: r) = true → ∀ k ∈ r.map (·.1), a.1 < k
  | _, [], _, _, h => by simp at h
  | a, b :: r, h, k, hk => by
    rw [incr, Bool.and_eq_true] at h
    have h1 : a.1 < b.1 := of_decide_eq_true h.1
    rw [List.map_cons, List.mem_cons] at hk
    rcases hk with rfl | hk
    · exact h1
    · exact Int.lt_trans h1 (incr_lt h.2 k hk)
theorem incr_nodup : ∀ {r : List (Int × Str)}, incr r = true → (r.map (·.1)).Nodup
  | [], _ => List.nodup_nil
  | a :: r, h => by
    rw [List.map_cons, List.nodup_cons]
    refine ⟨fun hh => Int.lt_irrefl _ (incr_lt h _ hh), incr_nodup ?_⟩
    unfold incr at h
    exact (Bool.and_eq_true _ _ ▸ h : _ ∧ _).2
theorem kvB3_len : kvB3.length = 650 := by decide +kernel
theorem kvB3_nodup : (kvB3.map (·.1)).Nodup := incr_nodup (by decide +kernel)
theorem kvB3_at : ∃ ks vs p, dictAt 1 = some (ks, vs, p) ∧ kvOf ks vs = some kvB3 := by
  have h : ((dictAt 1).bind fun d => kvOf d.1 d.2.1).isSome = true := by decide +kernel
  obtain ⟨r, hr⟩ := Option.isSome_iff_exists.mp h
  obtain ⟨⟨ks, vs, p⟩, hd, hk⟩ := Option.bind_eq_some_iff.mp hr
  refine ⟨ks, vs, p, hd, ?_⟩
  have : kvB3 = r := by unfold kvB3; rw [hr]; rfl
  rw [this]; exact hk
theorem kvB3_look : letters.all (fun (c : Nat) => decide ((kvB3.find? fun kv => decide (kv.1 = (c : Int))).map (·.2) = b3look c)) = true := by decide +kernel
end Mine

namespace Mine
open PySem PySem.W PySem.Calls PyProof.Rows
noncomputable def dOf (r : List (Int × Str)) : List (PyData × PyData) := r.map fun kv => (.int kv.1, .str kv.2)
theorem flat_of : ∀ {ks : List (Int × Value)} {r : List (Int × Str)}, VS ks r → PyProof.V.FlatPairs PyData.int ks (dOf r)
  | [], [], _ => .nil
  | (k, v) :: ks, b :: r, ⟨e, ⟨t, hv⟩, h⟩ => by
    obtain ⟨k2, x⟩ := b
    cases e
    have hv' : v = .str x t := hv
    subst hv'
    exact .cons (fun _ => Reads.str ..) (flat_of h)
  | [], _ :: _, h => h.elim
  | _ :: _, [], h => h.elim
theorem look_dOf (c : Int) : ∀ (r : List (Int × Str)), PySem.Spec.lookup (.int c) (dOf r) = ((r.find? fun kv => decide (kv.1 = c)).map (·.2)).map PyData.str := by
  intro r
  induction r with
  | nil => rfl
  | cons a r ih =>
    show (if PySem.Spec.same (.int a.1) (.int c) then some (PyData.str a.2) else PySem.Spec.lookup (.int c) (dOf r)) = _
    rw [ih, List.find?_cons]
    have e : PySem.Spec.same (.int a.1) (.int c) = (a.1 == c) := by simp [PySem.Spec.same]
    rw [e]
    by_cases h : a.1 = c
    · rw [if_pos (by simpa using h), decide_eq_true h]; rfl
    · rw [if_neg (by simpa using h), decide_eq_false h]
theorem tab_b3 {prog : Program} {w : World} {h : Heap} {d : Addr} (hd : DictAt prog w h d kvB3) (h2 : 2 ≤ d) : ∃ D, IntTab prog w h d D ∧ ∀ c ∈ letters, PySem.Spec.lookup (.int c) D = (b3look c).map .str := by
  obtain ⟨ks, hD, hV⟩ := hd
  refine ⟨dOf kvB3, ⟨beq_eq_false_iff_ne.mpr ?_, ks, hD, flat_of hV⟩, fun c hc => ?_⟩
  · intro e
    have e' : d = 1 := e
    rw [e'] at h2
    exact absurd h2 (by decide)
  · rw [look_dOf]
    have := List.all_eq_true.mp kvB3_look c hc
    rw [of_decide_eq_true this]
end Mine

namespace Mine
open PySem PySem.W PySem.Calls PyProof.Rows
theorem open_pw : opening pw = plainProg pw.main.scope.names := by kernel_rfl
theorem fence_pw (s : Shared) : fenceModules? pw s = some s := by kernel_rfl
theorem boot_pw (w : World) : (fencedOpening treeTable pw w 600).map (fun s => (s.heap, s.gens, s.drawn, s.toks)) = some (boot_heap w.params, Array.mk [], boot_drawn, boot_toks) :=
  boot_open open_pw (by decide) fence_pw w
end Mine

namespace Mine
open PySem PySem.W PySem.Calls PyProof.Rows
noncomputable def qE : Program := plainProg []
noncomputable def XT : Shared → Bool := fun s => freeNames.all (fun x => (s.heap.nsMap mainGlobals x).isNone)
theorem seen_boot (P : Params) (os) : openSeen qE [] [] XT true ⟨boot_heap P, Array.mk [], boot_drawn, boot_toks, os⟩ = openGood qE [] := by kernel_rfl
end Mine

namespace Mine
open PySem PySem.W PySem.Calls PyProof.Rows

inductive TopV where
  | fn (d : DefRec)
  | int (i : Int)
  | str
  | dict
/-- the value that a name of the text's top holds -/
noncomputable def holdsV (prog : Program) (w : World) (lo : Addr) (h : Heap) (v : Value) : TopV → Prop
  | .fn d => ∃ a o pm c' doc, v = .ref a ∧ lo ≤ a ∧ lo ≤ c' ∧ h.get? a = some o ∧ o.data = .func (docDef d.name d.params d.body d.scope pm (.ref c') doc) ∧ h.CodeRec (.ref c') d.name
  | .int i => ∃ t, v = .int i t
  | .str => ∃ x t, v = .str x t
  | .dict => ∃ a, v = .ref a ∧ lo ≤ a ∧ DictAt prog w h a kvB3
theorem holdsV.keep {prog : Program} {w : World} {lo : Addr} {h h' : Heap} {v : Value} {tv : TopV} (x : holdsV prog w lo h v tv) (k : ∀ b o, lo ≤ b → h.get? b = some o → h'.get? b = some o) : holdsV prog w lo h' v tv := by
  cases tv with
  | fn d =>
    obtain ⟨a, o, pm, c', doc, e, h1, h2, h3, h4, h5⟩ := x
    exact ⟨a, o, pm, c', doc, e, h1, h2, k _ _ h1 h3, h4, h5.at fun o e => k _ _ h2 e⟩
  | int i => exact x
  | str => exact x
  | dict =>
    obtain ⟨a, e, h1, ks, h2, h3⟩ := x
    exact ⟨a, e, h1, ks, h2.at fun o e => k _ _ h1 e, h3⟩
structure TSt (prog : Program) (w : World) (s0 s : Shared) (c Pl : Addr) (mg0 mg : Str → Option Value) (bs : List (Str × TopV)) (l : List (Pos × Addr)) : Prop where
  same : s = { s0 with heap := s.heap, toks := s.toks }
  keep : ∀ b o, b ≠ Pl → b ≠ mainGlobals → s0.heap.get? b = some o → s.heap.get? b = some o
  size : s0.heap.objs.size ≤ s.heap.objs.size
  main : s.heap.Main mg c Pl (triples l).toArray
  low : Pl < s0.heap.objs.size ∧ mainGlobals < s0.heap.objs.size ∧ 2 ≤ s0.heap.objs.size
  binds : ∀ x, match bs.lookup x with
    | some tv => ∃ v, mg x = some v ∧ holdsV prog w s0.heap.objs.size s.heap v tv
    | none => mg x = mg0 x

section
variable {prog : Program} {w : World} {A : Around} {E : Value → Shared → Prop} {s s0 : Shared} {c Pl F : Addr} {mg0 mg : Str → Option Value} {bs : List (Str × TopV)} {l : List (Pos × Addr)}

theorem TSt.bind (T : TSt prog w s0 s c Pl mg0 mg bs l) {h' : Heap} {tk : Nat} {l' : List (Pos × Addr)} {x : Str} {v : Value} {tv : TopV}
    (hm : h'.Main (fun y => if y = x then some v else mg y) c Pl (triples l').toArray) (hv : holdsV prog w s0.heap.objs.size h' v tv) (hk : ∀ b o, b ≠ Pl → b ≠ mainGlobals → s.heap.get? b = some o → h'.get? b = some o)
    (hsz : s.heap.objs.size ≤ h'.objs.size) : TSt prog w s0 { s with heap := h', toks := tk } c Pl mg0 (fun y => if y = x then some v else mg y) ((x, tv) :: bs) l' := by
  refine ⟨by rw [T.same], fun b o h1 h2 e => hk b o h1 h2 (T.keep b o h1 h2 e), Nat.le_trans T.size hsz, hm, T.low, fun y => ?_⟩
  by_cases hy : y = x
  · subst hy
    have e : ((y, tv) :: bs).lookup y = some tv := by simp [List.lookup]
    rw [e]
    exact ⟨v, by simp, hv⟩
  · have e : ((x, tv) :: bs).lookup y = bs.lookup y := by
      have : (y == x) = false := beq_eq_false_iff_ne.mpr hy
      simp [List.lookup, this]
    rw [e]
    have B := T.binds y
    cases hb : bs.lookup y with
    | none => rw [hb] at B; simpa [hy] using B
    | some tv' =>
      rw [hb] at B
      obtain ⟨v', h1, h2⟩ := B
      refine ⟨v', by simpa [hy] using h1, h2.keep fun b o hlo e => hk b o ?_ ?_ e⟩
      · exact fun q => Nat.not_lt.mpr hlo (q ▸ T.low.1)
      · exact fun q => Nat.not_lt.mpr hlo (q ▸ T.low.2.1)

theorem step_def {d : DefRec} {Q : Flow → Shared → Prop} (T : TSt prog w s0 s c Pl mg0 mg bs l) (hd : d.Plain prog) (hmod : prog.main.scope.kind = .module) (hp : ∀ q ∈ l, ¬ (q.1.line = d.pos.line ∧ q.1.col = d.pos.col))
    (h : ∀ s' mg' c', TSt prog w s0 s' c Pl mg0 mg' ((d.name, .fn d) :: bs) (l ++ [(d.pos, c')]) → Q .next s') : wpAny (model prog w) A (exec d.stmt (mainEnv prog c F)) Q E s := by
  refine wpAny_def hd hmod T.main (by simpa using codeAmong_triples d.pos l hp) fun a c' doc h' tk ha hm' hf hc hk => ?_
  have hlt := Heap.lt_size hf
  refine h _ _ c' (T.bind (v := .ref a) (l' := l ++ [(d.pos, c')]) ?_ ?_ hk (Nat.le_trans ha (Nat.le_of_lt hlt)))
  · rw [triples_append]; simpa using hm'
  · exact ⟨a, _, _, c', doc, rfl, Nat.le_trans T.size ha, Nat.le_trans T.size hc.1, hf, rfl, hc.2⟩
end
end Mine

namespace Mine
open PySem PySem.W PySem.Calls PyProof.Rows
section
variable {prog : Program} {w : World} {A : Around} {E : Value → Shared → Prop} {s s0 : Shared} {c Pl F : Addr} {mg0 mg : Str → Option Value} {bs : List (Str × TopV)} {l : List (Pos × Addr)}

theorem main_set {h h' : Heap} {ps : Array Value} {x : Str} {v : Value} (hm : h.Main mg c Pl ps) (hg : h'.Ns mainGlobals (fun y => if y = x then some v else mg y)) (hs : Heap.SameBut mainGlobals h h') (hx : x ≠ "__builtins__") :
    h'.Main (fun y => if y = x then some v else mg y) c Pl ps := by
  obtain ⟨bm, o, hbm, hne0, hneG, hneP, hbo, hrest⟩ := hm.bmod
  exact ⟨hg, hm.code.sameBut hs (Nat.ne_of_gt hm.low.1) (Nat.ne_of_gt hm.low.2), hm.low,
    ⟨bm, o, by simp only [Ne.symm hx, if_false]; exact hbm, hne0, hneG, hneP, (hs.2 _ hneG).trans hbo, hrest⟩⟩

theorem main_keep {h h' : Heap} {ps : Array Value} (hm : h.Main mg c Pl ps) (hk : ∀ b o, h.get? b = some o → h'.get? b = some o) : h'.Main mg c Pl ps :=
  ⟨hm.g.at fun o e => hk _ o e, hm.code.keeps hk, hm.low, hm.bmod.keeps hk⟩

theorem top_set {x : Str} {p pos : Pos} {value : Expr} {tv : TopV} {Q : Flow → Shared → Prop} (T : TSt prog w s0 s c Pl mg0 mg bs l) (hl : prog.main.scope.names.lookup x = some .local) (hmod : prog.main.scope.kind = .module) (hx : x ≠ "__builtins__")
    (hs : swapsWith value (some (.Name x p)) pos.line (mainEnv prog c F) = pure false)
    (hv : ∀ (Q' : Value → Shared → Prop), (∀ v h' tk, (∀ b o, s.heap.get? b = some o → h'.get? b = some o) → s.heap.objs.size ≤ h'.objs.size → holdsV prog w s.heap.objs.size h' v tv → Q' v { s with heap := h', toks := tk }) → wpAny (model prog w) A (eval value (mainEnv prog c F)) Q' E s)
    (h : ∀ s' mg', TSt prog w s0 s' c Pl mg0 mg' ((x, tv) :: bs) l → Q .next s') : wpAny (model prog w) A (exec (.Assign [.Name x p] value pos) (mainEnv prog c F)) Q E s := by
  refine wpAny_Assign_Name (hv _ fun v h' tk hk hsz hh => ?_) hs
  have hm' := main_keep T.main hk
  refine wpAny_storeName_local (env := mainEnv prog c F) hl (s := { s with heap := h', toks := tk }) hm'.g (fun h'' hg hs' => ?_) (by show (prog.main.scope.kind == .class || (prog.main.scope.kind == .module && mainGlobals != mainGlobals)) = false; rw [hmod]; rfl)
  have hlo : mainGlobals < s.heap.objs.size := Nat.lt_of_lt_of_le T.low.2.1 T.size
  refine h _ _ (T.bind (main_set hm' hg hs' hx) ?_ (fun b o _ h2 e => (hs'.2 b h2).trans (hk b o e)) ?_)
  · have := hh.keep (h' := h'') fun b o hb e => (hs'.2 b (fun q => Nat.not_lt.mpr hb (q ▸ hlo))).trans e
    cases tv with
    | fn d =>
      obtain ⟨a, o, pm, c', doc, e, h1, h2, r⟩ := this
      exact ⟨a, o, pm, c', doc, e, Nat.le_trans T.size h1, Nat.le_trans T.size h2, r⟩
    | int i => exact this
    | str => exact this
    | dict =>
      obtain ⟨a, e, h1, r⟩ := this
      exact ⟨a, e, Nat.le_trans T.size h1, r⟩
  · exact Nat.le_trans hsz (Nat.le_of_eq hs'.1.symm)

theorem top_int {x : Str} {p pos cp : Pos} {i : Int} {n : Nat} {Q : Flow → Shared → Prop} (T : TSt prog w s0 s c Pl mg0 mg bs l) (hl : prog.main.scope.names.lookup x = some .local) (hmod : prog.main.scope.kind = .module) (hx : x ≠ "__builtins__")
    (h : ∀ s' mg', TSt prog w s0 s' c Pl mg0 mg' ((x, .int i) :: bs) l → Q .next s') : wpAny (model prog w) A (exec (.Assign [.Name x p] (.Constant (.int i) n cp) pos) (mainEnv prog c F)) Q E s :=
  top_set T hl hmod hx rfl (fun Q' hq => by
    rw [arm_eval_Constant]
    exact wpAny_mkInt (hq _ s.heap (s.toks + 1) (fun _ _ e => e) (Nat.le_refl _) ⟨_, rfl⟩)) h
theorem top_str {x y : Str} {p pos cp : Pos} {n : Nat} {Q : Flow → Shared → Prop} (T : TSt prog w s0 s c Pl mg0 mg bs l) (hl : prog.main.scope.names.lookup x = some .local) (hmod : prog.main.scope.kind = .module) (hx : x ≠ "__builtins__")
    (h : ∀ s' mg', TSt prog w s0 s' c Pl mg0 mg' ((x, .str) :: bs) l → Q .next s') : wpAny (model prog w) A (exec (.Assign [.Name x p] (.Constant (.str y) n cp) pos) (mainEnv prog c F)) Q E s :=
  top_set T hl hmod hx rfl (fun Q' hq => by
    rw [arm_eval_Constant]
    exact wpAny_mkText (hq _ s.heap (s.toks + 1) (fun _ _ e => e) (Nat.le_refl _) ⟨_, _, rfl⟩)) h
theorem top_dict {x : Str} {p pos dp : Pos} {ks : List (Option Expr)} {vs : List Expr} {Q : Flow → Shared → Prop} (T : TSt prog w s0 s c Pl mg0 mg bs l) (hl : prog.main.scope.names.lookup x = some .local) (hmod : prog.main.scope.kind = .module) (hx : x ≠ "__builtins__")
    (hk : kvOf ks vs = some kvB3) (h : ∀ s' mg', TSt prog w s0 s' c Pl mg0 mg' ((x, .dict) :: bs) l → Q .next s') : wpAny (model prog w) A (exec (.Assign [.Name x p] (.Dict ks vs dp) pos) (mainEnv prog c F)) Q E s :=
  top_set T hl hmod hx rfl (fun Q' hq => by
    refine ev_dict_const hk (Nat.le_trans T.low.2.2 T.size) (fun e => ?_) kvB3_nodup (by rw [kvB3_len]; decide) fun h' tk d hd hge hkeep hsz _ => hq _ h' tk hkeep hsz ⟨d, rfl, hge, hd⟩
    have := kvB3_len
    rw [e] at this
    exact absurd this (by decide)) h
end
end Mine

namespace Mine
open PySem PySem.W PySem.Calls PyProof.Rows

/-- what a statement of the top binds: its name, the kind of value, the place of its def -/
noncomputable def bindOf : Stmt → Option (Str × TopV × Option Pos)
  | .FunctionDef n a b [] none [] sc none _ pos => some (n, .fn ⟨n, a, b, sc, pos⟩, some pos)
  | .Assign [.Name x _] (.Constant (.int i) _ _) _ => some (x, .int i, none)
  | .Assign [.Name x _] (.Constant (.str _) _ _) _ => some (x, .str, none)
  | .Assign [.Name x _] (.Dict _ _ _) _ => some (x, .dict, none)
  | _ => none

/-- the statement's step is known -/
noncomputable def StOk (prog : Program) (st : Stmt) (r : Str × TopV × Option Pos) : Prop :=
  ∀ (w : World) (A : Around) (E : Value → Shared → Prop) (s s0 : Shared) (c Pl F : Addr) (mg0 mg : Str → Option Value) (bs : List (Str × TopV)) (l : List (Pos × Addr)) (Q : Flow → Shared → Prop),
    TSt prog w s0 s c Pl mg0 mg bs l → (∀ p, r.2.2 = some p → ∀ q ∈ l, ¬ (q.1.line = p.line ∧ q.1.col = p.col)) →
    (∀ s' mg' l', TSt prog w s0 s' c Pl mg0 mg' ((r.1, r.2.1) :: bs) l' → (∀ q ∈ l', q ∈ l ∨ r.2.2 = some q.1) → Q .next s') →
    wpAny (model prog w) A (exec st (mainEnv prog c F)) Q E s

inductive AllOk (prog : Program) : List Stmt → List (Str × TopV × Option Pos) → Prop
  | nil : AllOk prog [] []
  | cons {st : Stmt} {r : Str × TopV × Option Pos} {sts : List Stmt} {rs : List (Str × TopV × Option Pos)} : StOk prog st r → AllOk prog sts rs → AllOk prog (st :: sts) (r :: rs)

theorem top_fold {prog : Program} {w : World} {A : Around} {E : Value → Shared → Prop} {s0 : Shared} {c Pl F : Addr} {mg0 : Str → Option Value} {Q : Flow → Shared → Prop} :
    ∀ (sts : List Stmt) (rs : List (Str × TopV × Option Pos)) (s : Shared) (mg : Str → Option Value) (bs : List (Str × TopV)) (l : List (Pos × Addr)),
    AllOk prog sts rs → (rs.filterMap (·.2.2)).Pairwise (fun p q => ¬ (p.line = q.line ∧ p.col = q.col)) → (∀ q ∈ l, ∀ p ∈ rs.filterMap (·.2.2), ¬ (q.1.line = p.line ∧ q.1.col = p.col)) →
    TSt prog w s0 s c Pl mg0 mg bs l → (∀ s' mg' l', TSt prog w s0 s' c Pl mg0 mg' ((rs.map fun r => (r.1, r.2.1)).reverse ++ bs) l' → Q .next s') →
    wpAny (model prog w) A (execs sts (mainEnv prog c F)) Q E s
  | _, _, s, mg, bs, l, .nil, _, _, T, h => wpAny_execs_nil (h _ _ _ T)
  | _, _, s, mg, bs, l, .cons (st := st) (r := r) (sts := sts) (rs := rs) h1 h2, hp, hl, T, h => by
    refine wpAny_execs_cons (h1 w A E s s0 c Pl F mg0 mg bs l _ T (fun p hr q hq => hl q hq p (by simp [List.filterMap_cons, hr])) fun s' mg' l' T' hl' => ?_)
    have hp' : (rs.filterMap (·.2.2)).Pairwise (fun p q => ¬ (p.line = q.line ∧ p.col = q.col)) := by
      rw [List.filterMap_cons] at hp
      split at hp
      · exact hp
      · exact (List.pairwise_cons.mp hp).2
    refine top_fold sts rs s' mg' _ l' h2 hp' (fun q hq p hpm => ?_) T' fun s'' mg'' l'' T'' => h s'' mg'' l'' (by
      have e : ((r :: rs).map fun r => (r.1, r.2.1)).reverse ++ bs = (rs.map fun r => (r.1, r.2.1)).reverse ++ ((r.1, r.2.1) :: bs) := by simp
      rw [e]; exact T'')
    rcases hl' q hq with e | e
    · refine hl q e p ?_
      rw [List.filterMap_cons]; split
      · exact hpm
      · exact List.mem_cons_of_mem _ hpm
    · rw [List.filterMap_cons, e] at hp
      exact (List.pairwise_cons.mp hp).1 p hpm

section
variable {prog : Program}
theorem stOk_def {d : DefRec} (hd : d.Plain prog) (hmod : prog.main.scope.kind = .module) : StOk prog d.stmt (d.name, .fn d, some d.pos) := by
  intro w A E s s0 c Pl F mg0 mg bs l Q T hp h
  refine step_def T hd hmod (hp _ rfl) fun s' mg' c' T' => h s' mg' _ T' fun q hq => ?_
  rcases List.mem_append.mp hq with e | e
  · exact .inl e
  · obtain rfl : q = (d.pos, c') := by simpa using e
    exact .inr rfl
theorem stOk_int {x : Str} {p pos cp : Pos} {i : Int} {n : Nat} (hl : prog.main.scope.names.lookup x = some .local) (hmod : prog.main.scope.kind = .module) (hx : x ≠ "__builtins__") :
    StOk prog (.Assign [.Name x p] (.Constant (.int i) n cp) pos) (x, .int i, none) :=
  fun _ _ _ _ _ _ _ _ _ _ _ l _ T _ h => top_int T hl hmod hx fun s' mg' T' => h s' mg' l T' fun _ hq => .inl hq
theorem stOk_str {x y : Str} {p pos cp : Pos} {n : Nat} (hl : prog.main.scope.names.lookup x = some .local) (hmod : prog.main.scope.kind = .module) (hx : x ≠ "__builtins__") :
    StOk prog (.Assign [.Name x p] (.Constant (.str y) n cp) pos) (x, .str, none) :=
  fun _ _ _ _ _ _ _ _ _ _ _ l _ T _ h => top_str T hl hmod hx fun s' mg' T' => h s' mg' l T' fun _ hq => .inl hq
theorem stOk_dict {x : Str} {p pos dp : Pos} {ks : List (Option Expr)} {vs : List Expr} (hl : prog.main.scope.names.lookup x = some .local) (hmod : prog.main.scope.kind = .module) (hx : x ≠ "__builtins__") (hk : kvOf ks vs = some kvB3) :
    StOk prog (.Assign [.Name x p] (.Dict ks vs dp) pos) (x, .dict, none) :=
  fun _ _ _ _ _ _ _ _ _ _ _ l _ T _ h => top_dict T hl hmod hx hk fun s' mg' T' => h s' mg' l T' fun _ hq => .inl hq

noncomputable def bareArgs (a : Arguments) : Bool := a.vararg.isNone && a.kwarg.isNone && a.defaults.isEmpty && a.kw_defaults.isEmpty && (a.posonlyargs ++ a.args ++ a.kwonlyargs).all (fun x => x.annotation.isNone)
theorem ann_none (env : Env) : ∀ (l : List Arg), (∀ x ∈ l, x.annotation.isNone = true) → annotationsOf l env = []
  | [], _ => rfl
  | ⟨n, none, p⟩ :: r, h => by
    show annotationsOf r env = []
    exact ann_none env r fun x hx => h x (List.mem_cons_of_mem _ hx)
  | ⟨n, some e, p⟩ :: r, h => by
    have := h _ (List.mem_cons_self ..)
    cases this
theorem plainTree_of {n : Str} {a : Arguments} {b : List Stmt} {sc : Scope} {pos : Pos} (h : bareArgs a = true) : PlainDefTree n a b sc pos := by
  obtain ⟨po, ar, va, ko, kd, kwa, df⟩ := a
  simp only [bareArgs, Bool.and_eq_true, List.all_eq_true, Option.isNone_iff_eq_none, List.isEmpty_iff] at h
  obtain ⟨⟨⟨⟨rfl, rfl⟩, rfl⟩, rfl⟩, h⟩ := h
  intro env
  rw [exec_def]
  have e : annTrees ⟨po, ar, none, ko, [], none, []⟩ none = fun _ => [] := by
    funext env
    unfold annTrees
    show annotationsOf (ar ++ po ++ [] ++ ko ++ []) env ++ [] = []
    rw [ann_none env _ (fun x hx => by
      rw [h x ?_]; · rfl
      simp only [List.mem_append, List.not_mem_nil, or_false] at hx ⊢
      rcases hx with (hx | hx) | hx
      · exact .inl (.inr hx)
      · exact .inl (.inl hx)
      · exact .inr hx)]
    rfl
  rw [e, defaultsOf_eq]
  rfl

/-- a check of one statement -/
noncomputable def stGood (prog : Program) (st : Stmt) : Bool := match st with
  | .FunctionDef n a _ [] none [] sc none q _ => bareArgs a && sc.names.all (fun x => x.2 != .free) && (prog.main.scope.names.lookup n == some .local) && (qualnameIn { scope := prog.main.scope, locals := mainGlobals, globals := mainGlobals, cells := [] } n n == n) && (n != "__builtins__") && (q == n)
  | .Assign [.Name x _] (.Constant (.int _) _ _) _ => (prog.main.scope.names.lookup x == some .local) && (x != "__builtins__")
  | .Assign [.Name x _] (.Constant (.str _) _ _) _ => (prog.main.scope.names.lookup x == some .local) && (x != "__builtins__")
  | .Assign [.Name x _] (.Dict _ _ _) _ => (prog.main.scope.names.lookup x == some .local) && (x != "__builtins__")
  | _ => false

theorem stOk_of {st : Stmt} (hmod : prog.main.scope.kind = .module) (hk : ∀ t ks vs dp pos, st = .Assign t (.Dict ks vs dp) pos → kvOf ks vs = some kvB3) (h : stGood prog st = true) : ∃ r, bindOf st = some r ∧ StOk prog st r := by
  unfold stGood at h
  split at h
  · simp only [Bool.and_eq_true, beq_iff_eq, bne_iff_ne, List.all_eq_true] at h
    rename_i n a b sc q pos
    obtain ⟨⟨⟨⟨⟨h0, h1⟩, h2⟩, h3⟩, h4⟩, e⟩ := h
    subst e
    exact ⟨_, rfl, stOk_def (d := ⟨q, a, b, sc, pos⟩) ⟨plainTree_of h0, h1, h2, h3, h4⟩ hmod⟩
  · simp only [Bool.and_eq_true, beq_iff_eq, bne_iff_ne] at h
    exact ⟨_, rfl, stOk_int h.1 hmod h.2⟩
  · simp only [Bool.and_eq_true, beq_iff_eq, bne_iff_ne] at h
    exact ⟨_, rfl, stOk_str h.1 hmod h.2⟩
  · simp only [Bool.and_eq_true, beq_iff_eq, bne_iff_ne] at h
    exact ⟨_, rfl, stOk_dict h.1 hmod h.2 (hk _ _ _ _ _ rfl)⟩
  · cases h
end

noncomputable def pwRs : List (Str × TopV × Option Pos) := pw.main.body.filterMap bindOf
noncomputable def dictOf : Stmt → Option (List (Option Expr) × List Expr × Pos)
  | .Assign _ (.Dict ks vs p) _ => some (ks, vs, p)
  | _ => none
theorem dicts_pw : pw.main.body.filterMap dictOf = (dictAt 1).toList := by kernel_rfl
theorem good_pw : pw.main.body.all (stGood pw) = true := by kernel_rfl
theorem mod_pw : pw.main.scope.kind = .module := by kernel_rfl
theorem dict_pw {t ks vs dp pos} (h : Stmt.Assign t (.Dict ks vs dp) pos ∈ pw.main.body) : kvOf ks vs = some kvB3 := by
  obtain ⟨ks', vs', p', h1, h2⟩ := kvB3_at
  have : (ks, vs, dp) ∈ pw.main.body.filterMap dictOf := List.mem_filterMap.mpr ⟨_, h, rfl⟩
  rw [dicts_pw, h1] at this
  obtain e : (ks, vs, dp) = (ks', vs', p') := by simpa using this
  cases e; exact h2
theorem forall2_of {prog : Program} : ∀ (sts : List Stmt), (∀ st ∈ sts, ∃ r, bindOf st = some r ∧ StOk prog st r) → AllOk prog sts (sts.filterMap bindOf)
  | [], _ => .nil
  | st :: sts, h => by
    obtain ⟨r, h1, h2⟩ := h st (List.mem_cons_self ..)
    rw [List.filterMap_cons, h1]
    exact .cons h2 (forall2_of sts fun st hs => h st (List.mem_cons_of_mem _ hs))
theorem steps_pw : AllOk pw pw.main.body pwRs :=
  forall2_of _ fun st hs => stOk_of mod_pw (fun _ _ _ _ _ e => dict_pw (e ▸ hs)) (List.all_eq_true.mp good_pw st hs)
noncomputable def linesUp : List Pos → Bool
  | [] => true
  | a :: r => r.all (fun b => decide (a.line < b.line)) && linesUp r
theorem linesUp_pairwise : ∀ {l : List Pos}, linesUp l = true → l.Pairwise (fun p q => ¬ (p.line = q.line ∧ p.col = q.col))
  | [], _ => .nil
  | a :: r, h => by
    rw [linesUp, Bool.and_eq_true] at h
    refine .cons (fun b hb e => ?_) (linesUp_pairwise h.2)
    have := of_decide_eq_true (List.all_eq_true.mp h.1 b hb)
    rw [e.1] at this
    exact Nat.lt_irrefl _ this
theorem lines_pw : linesUp (pwRs.filterMap (·.2.2)) = true := by kernel_rfl
end Mine

namespace Mine
open PySem PySem.W PySem.Calls PyProof.Rows

theorem runN_no_halt {den : Code → Sem Fin} {prog : Program} {w : World} : ∀ (k n : Nat) (s : Shared) (t : Thread) {σ s₁ s₂ : Shared} {tau t₁ : Thread} {o : Outcome},
    k < n → runN den prog w n s t = .running σ tau → runN den prog w k s t = .running s₁ t₁ → step den prog w s₁ t₁ = .halt o s₂ → False
  | _, 0, _, _, _, _, _, _, _, _, h, _, _, _ => absurd h (Nat.not_lt_zero _)
  | 0, n + 1, s, t, _, _, _, _, _, _, _, hn, hk, hs => by
    have hk' : Run.running s t = .running _ _ := hk
    injection hk' with e1 e2
    subst e1 e2
    simp only [runN, hs] at hn
    cases hn
  | k + 1, n + 1, s, t, _, _, _, _, _, _, h, hn, hk, hs => by
    simp only [runN] at hn hk
    cases hq : step den prog w s t with
    | halt o' s' => rw [hq] at hn; cases hn
    | go s' t' =>
      rw [hq] at hn hk
      exact runN_no_halt k n s' t' (Nat.lt_of_succ_lt_succ h) hn hk hs

theorem step_toks (den : Code → Sem Fin) (prog : Program) (w : World) (s s' : Shared) (t t' : Thread) (h : step den prog w s t = .go s' t') : s.toks ≤ s'.toks := by
  obtain ⟨⟨objs, l⟩, gens, drawn, toks, os⟩ := s
  obtain ⟨cur, code, pos, stack⟩ := t
  simp only [step] at h
  repeat' split at h
  all_goals first
    | (cases h; exact Nat.le_refl _)
    | (cases h; exact Nat.le_succ _)
    | (simp only [finish] at h; split at h <;> cases h)
    | cases h
theorem runN_toks {den : Code → Sem Fin} {prog : Program} {w : World} : ∀ (n : Nat) (s : Shared) (t : Thread) {s' : Shared} {t' : Thread}, runN den prog w n s t = .running s' t' → s.toks ≤ s'.toks
  | 0, s, t, _, _, h => by
    have h' : Run.running s t = .running _ _ := h
    injection h' with e _
    rw [e]; exact Nat.le_refl _
  | n + 1, s, t, _, _, h => by
    simp only [runN] at h
    cases hq : step den prog w s t with
    | halt o' s' => rw [hq] at h; cases h
    | go s' t' =>
      rw [hq] at h
      exact Nat.le_trans (step_toks _ _ _ _ _ _ _ hq) (runN_toks n s' t' h)

theorem thread_through {prog : Program} {w : World} {t : Sem Fin} {s : Shared} {R : Shared → Prop} (hreg : s.asleep)
    (h : wpAny (model prog w) callerA t (fun fin s' => fin = .done (.ret .none) ∧ R s' ∧ s'.gens = #[]) (fun _ _ => False) s) :
    ∃ n s₁ t₁, schedN (denote table) prog w n (.single s ⟨t, .builtin "claim.caller" {}, default, []⟩) = .running (.single s₁ t₁) ∧ through t₁ = true ∧ s₁.heap.life = s.heap.life ∧ s.toks ≤ s₁.toks ∧ R s₁ := by
  have h1 := wp_of_wpAny_done (R := fun r s' => (r = .ok (.ret .none) ∧ R s' ∧ s'.gens = #[]) ∧ leftWithCleanup s'.gens = false) caller_in
    (wpAny_mono h (fun fin s' ⟨e, a, b⟩ => ⟨_, e, ⟨rfl, a, b⟩, by rw [b]; simp [leftWithCleanup]⟩) fun _ _ x => x.elim) default
  obtain ⟨n0, r0, s0, hn0, _⟩ := (wp_iff_halts (M := model prog w) (R := fun r s' => r = .ok (.ret .none) ∧ R s' ∧ s'.gens = #[]) ..).mp h1
  obtain ⟨_, _, _, hc⟩ := runNI_real _ _ _ hn0 (outcomeOf_ends r0)
  obtain ⟨n, r, s', c', p', hn, ⟨rfl, hR, hg⟩, _⟩ := wp_runN (M := model prog w) (base := []) (R := fun r s' => (r = .ok (.ret .none) ∧ R s' ∧ s'.gens = #[]) ∧ leftWithCleanup s'.gens = false) h1
  obtain ⟨σ, tau, hr, hσ, htau⟩ := runNI_running_real hn
  obtain rfl : σ = s' := Shared.eq_of_forget_eq hσ hg
  refine ⟨n, σ, tau, ?_, ?_, runN_life_running hr, runN_toks _ _ _ hr, hR⟩
  · exact (schedN_prefix (denote table) prog w n s _ hreg fun k s₁ t₁ hk e => ⟨hc k s₁ t₁ e, fun hx => runN_no_halt k n _ _ hk hr e hx⟩).trans (congrArg Run.lift hr)
  · obtain ⟨cur, code, pos, stack⟩ := tau
    have e1 : cur = leafOf (.ok (.ret .none)) := congrArg Thread.cur htau
    have e2 : forgetAll stack = [] := congrArg Thread.stack htau
    cases stack with
    | nil => subst e1; rfl
    | cons F st => cases e2
end Mine

namespace Mine
open PySem PySem.W PySem.Calls PyProof.Rows

theorem behind_pw : behindTheImports pw = pw.main.body := by kernel_rfl
theorem anns_pw : hasAnns pw.main.body = false := by kernel_rfl
theorem doc_pw : docOf pw.main.body = none := by kernel_rfl
noncomputable def pwBs : List (Str × TopV) := (pwRs.map fun r => (r.1, r.2.1)).reverse

theorem run_top {w : World} {s0 : Shared} {mg0 : Str → Option Value} {Q : Shared → Prop} (hg : s0.heap.Ns mainGlobals mg0)
    (hb : ∃ bm ob, mg0 "__builtins__" = some (.ref bm) ∧ bm ≠ builtinsNs ∧ s0.heap.get? bm = some ob ∧ ob.cls = .type "module" ∧ ob.dict = some builtinsNs ∧ ob.data = .plain)
    (h : ∀ c Pl h1 tk s' mg l, (∀ b o, s0.heap.get? b = some o → h1.get? b = some o) → s0.heap.objs.size ≤ h1.objs.size → s0.heap.objs.size ≤ Pl →
      TSt pw w { s0 with heap := h1, toks := tk } s' c Pl mg0 mg (pwBs ++ []) l → Q s') :
    wpAny (model pw w) callerA (topStub pw).cur (fun fin s' => fin = .done (.ret .none) ∧ Q s') (fun _ _ => False) s0 := by
  obtain ⟨bm, ob, hbm, hne0, hbo, hcls, hdict, hdata⟩ := hb
  have hlt := hg.lt
  have hneG : bm ≠ mainGlobals := by
    rintro rfl
    obtain ⟨o, es, ep, ho, hd, _⟩ := hg
    rw [hbo] at ho; injection ho with ho; subst ho
    rw [hdata] at hd; cases hd
  unfold topStub
  dsimp only
  refine wpAny_bind (wpAny_moduleCode fun c Pl h1 tk hk hc hPl hcode => ?_)
  unfold newBodyFrame
  refine wpAny_bind (wpAny_bind (wpAny_nsGet (hg.at fun o e => hk _ o e) (wpAny_alloc ?_)))
  refine wpAny_bind (wpAny_run (codeAny_mono (R := fun r s' => r = .ok .next ∧ Q s') ?_ ?_))
  · rw [behind_pw]
    refine codeAny_body anns_pw doc_pw ?_
    have T0 : TSt pw w { s0 with heap := h1.push { cls := .type "frame", slots := #[some (.ref c), some (.ref mainNs), some (.ref mainNs), none, some ((mg0 "__name__").getD .none), none, some (.ref builtinsNs)] }, toks := tk }
        { s0 with heap := h1.push { cls := .type "frame", slots := #[some (.ref c), some (.ref mainNs), some (.ref mainNs), none, some ((mg0 "__name__").getD .none), none, some (.ref builtinsNs)] }, toks := tk } c Pl mg0 mg0 [] [] := by
      refine ⟨rfl, fun _ _ _ _ e => e, Nat.le_refl _, ⟨(hg.at fun o e => hk _ o e).push _, hcode.push _, ⟨Nat.lt_of_lt_of_le hlt hc, Nat.lt_of_lt_of_le hlt hPl⟩, ⟨bm, ob, hbm, hne0, hneG, ?_, Heap.get?_push_of_some _ (hk _ _ hbo), hcls, hdict, hdata⟩⟩, ⟨?_, ?_, ?_⟩, fun x => rfl⟩
      · exact Nat.ne_of_lt (Nat.lt_of_lt_of_le (Heap.lt_size hbo) hPl)
      · show Pl < (h1.push _).objs.size
        rw [Heap.size_push]
        exact Nat.lt_succ_of_lt hcode.lt.2
      · exact ((hg.at fun o e => hk _ o e).push _).lt
      · have := ((hg.at fun o e => hk _ o e).push { cls := .type "frame", slots := #[some (.ref c), some (.ref mainNs), some (.ref mainNs), none, some ((mg0 "__name__").getD .none), none, some (.ref builtinsNs)] }).lt
        exact Nat.le_trans (by decide) (Nat.le_of_lt this)
    refine wpAny_mono (E := fun _ _ => False) (top_fold (Q := fun f s' => f = .next ∧ Q s') pw.main.body pwRs _ mg0 [] [] steps_pw (linesUp_pairwise lines_pw) (fun q hq => absurd hq (List.not_mem_nil)) T0 fun s' mg' l' T => ⟨rfl, h c Pl _ tk s' mg' l' (fun b o e => Heap.get?_push_of_some _ (hk b o e)) ?_ hPl T⟩) (fun f s' x => ⟨by rw [x.1], x.2⟩) fun _ _ x => x.elim
    exact Nat.le_trans (Nat.le_trans (Nat.le_trans hc (Nat.le_of_lt hcode.lt.1)) (Nat.le_succ _)) (Nat.le_of_eq (Heap.size_push ..).symm)
  · rintro r s' ⟨rfl, hQ⟩
    exact wpAny_pure ⟨rfl, hQ⟩
end Mine

namespace Mine
open PySem PySem.W PySem.Calls PyProof.Rows

theorem look_defs : defs.map (fun d => pwBs.lookup d.name) = defs.map (fun d => some (TopV.fn d)) := by kernel_rfl
theorem look_tab : pwBs.lookup ("b3_exceptions" : Str) = some .dict := by kernel_rfl
theorem look_move : pwBs.lookup ("_MOVE_COST" : Str) = some (.int 2) := by kernel_rfl
theorem look_case : pwBs.lookup ("_CASE_COST" : Str) = some (.int 1) := by kernel_rfl
theorem look_free : freeNames.all (fun x => (pwBs.lookup x).isNone) = true := by decide +kernel
theorem look_laid : laidNames.all (fun x => (pwBs.lookup x).isNone) = true := by decide +kernel
theorem look_bound : pwBs.all (fun b => pw.boundNames.contains b.1) = true := by decide +kernel
theorem mods_pw : importedModules pw.main.body = [] := by kernel_rfl
theorem chains_qE : chainsOk qE = true := by kernel_rfl

theorem qE_1 : looseW qE [] = [] := by kernel_rfl
theorem qE_2 : recsOf qE = [] := by kernel_rfl
theorem qE_3 : litsOf qE = [] := by kernel_rfl
theorem qE_4 : clssOf qE (looseW qE []) = [] := by kernel_rfl
theorem boot_toks_pos : 0 < boot_toks := by decide +kernel

/-- what is known of the state ahead of the top -/
structure S0 (w : World) (s0 : Shared) (mg0 mb : Str → Option Value) : Prop where
  g : s0.heap.Ns mainGlobals mg0
  b : s0.heap.Ns builtinsNs mb
  nolimit : s0.heap.NoLimit
  builtins : ∀ x : Str, x ≠ "__name__" → mb x = bootBuiltins x
  bmain : ∃ bm ob, mg0 "__builtins__" = some (.ref bm) ∧ bm ≠ builtinsNs ∧ s0.heap.get? bm = some ob ∧ ob.cls = .type "module" ∧ ob.dict = some builtinsNs ∧ ob.data = .plain
  free : ∀ x ∈ freeNames, mg0 x = none
  names : ∀ x, x ∉ startupNames → mg0 x = none
  acc : staticsAccountedI s0.heap []
  blt : builtinsAsBooted s0.heap
  gens : s0.gens = #[]
  toks : 0 < s0.toks

theorem s0_of {w : World} {s0 : Shared} (e : (s0.heap, s0.gens, s0.drawn, s0.toks) = (boot_heap w.params, Array.mk [], boot_drawn, boot_toks)) : S0 w s0 (s0.heap.nsMap mainGlobals) (s0.heap.nsMap builtinsNs) := by
  obtain ⟨h, g, d, t, os⟩ := s0
  obtain ⟨e1, e⟩ := Prod.mk.inj e
  obtain ⟨e2, e⟩ := Prod.mk.inj e
  obtain ⟨e3, e4⟩ := Prod.mk.inj e
  subst e1 e2 e3 e4
  obtain ⟨G, _, hg, ha, _, hb, _⟩ := ground_of_open (w := w) (XP := fun mg _ => ∀ x ∈ freeNames, mg x = none) (fun s hs x hx => by
    have := List.all_eq_true.mp hs x hx
    simpa using this) chains_qE (seen_boot w.params os)
  exact ⟨G.T.g, G.T.b, G.T.nolimit, G.T.builtins, G.T.bmain, G.X, fun x hx => G.T.free x hx (by rw [qE_1]; exact List.not_mem_nil) (by rw [qE_2]; exact List.not_mem_nil) (by rw [qE_3]; exact List.not_mem_nil) (by rw [qE_4]; exact List.not_mem_nil), ha, hb, rfl, boot_toks_pos⟩


section
variable {w : World} {s0 s' s1 : Shared} {mg0 mb mg : Str → Option Value} {c Pl : Addr} {l : List (Pos × Addr)}
theorem bs_none {x : Str} (T : TSt pw w s1 s' c Pl mg0 mg (pwBs ++ []) l) (h : (pwBs.lookup x).isNone = true) : mg x = mg0 x := by
  have B := T.binds x
  rw [List.append_nil, Option.isNone_iff_eq_none.mp h] at B
  exact B
theorem bs_some {x : Str} {tv : TopV} (T : TSt pw w s1 s' c Pl mg0 mg (pwBs ++ []) l) (h : pwBs.lookup x = some tv) : ∃ v, mg x = some v ∧ holdsV pw w s1.heap.objs.size s'.heap v tv := by
  have B := T.binds x
  rw [List.append_nil, h] at B
  exact B
theorem look_def {d : DefRec} (hd : d ∈ defs) : pwBs.lookup d.name = some (.fn d) := List.map_inj_left.mp look_defs d hd
theorem defs_of (T : TSt pw w s1 s' c Pl mg0 mg (pwBs ++ []) l) {d : DefRec} (hd : d ∈ defs) :
    ∃ a o pm c' doc, mg d.name = some (.ref a) ∧ s'.heap.get? a = some o ∧ o.data = .func (docDef d.name d.params d.body d.scope pm (.ref c') doc) ∧ s'.heap.CodeRec (.ref c') d.name := by
  obtain ⟨v, h1, a, o, pm, c', doc, rfl, _, _, h2, h3, h4⟩ := bs_some T (look_def hd)
  exact ⟨a, o, pm, c', doc, h1, h2, h3, h4⟩

theorem top_of (S : S0 w s0 mg0 mb) (T : TSt pw w s1 s' c Pl mg0 mg (pwBs ++ []) l) (hk : ∀ b o, s0.heap.get? b = some o → s1.heap.get? b = some o) (hP : s0.heap.objs.size ≤ Pl) : Top pw w s'.heap mg mb := by
  have keep : ∀ b o, b ≠ mainGlobals → s0.heap.get? b = some o → s'.heap.get? b = some o := fun b o hb e =>
    T.keep b o (Nat.ne_of_lt (Nat.lt_of_lt_of_le (Heap.lt_size e) hP)) hb (hk b o e)
  refine ⟨fun d hd => ?_, ⟨T.main.g, S.b.at fun o e => keep _ o (by decide) e, S.nolimit.at fun o e => keep _ o (by decide) e, S.builtins⟩, ?_, ?_, ?_, fun x hx => ?_⟩
  · obtain ⟨a, o, pm, c', doc, h⟩ := defs_of T hd
    exact ⟨a, o, pm, .ref c', doc, h⟩
  · obtain ⟨v, h1, a, rfl, hlo, hD⟩ := bs_some T look_tab
    obtain ⟨D, h2, h3⟩ := tab_b3 hD (Nat.le_trans T.low.2.2 hlo)
    exact ⟨a, D, h1, h2, h3⟩
  · obtain ⟨v, h1, t, rfl⟩ := bs_some T look_move
    exact ⟨t, h1⟩
  · obtain ⟨v, h1, t, rfl⟩ := bs_some T look_case
    exact ⟨t, h1⟩
  · rw [bs_none T (List.all_eq_true.mp look_free x hx)]
    exact S.free x hx
end
end Mine

namespace Mine
open PySem PySem.W PySem.Calls PyProof.Rows

theorem staticOf_same {h h' : Heap} (e : h'.get? cStatics = h.get? cStatics) : staticOf h' = staticOf h := by
  funext k; unfold staticOf; rw [e]
theorem builtinOf_same {h h' : Heap} (e : h'.get? builtinsNs = h.get? builtinsNs) : builtinOf h' = builtinOf h := by
  funext k; unfold builtinOf; rw [e]
theorem law_def : pw.theDef "law" = some ((defAt 25).params, (defAt 25).body, (defAt 25).scope) := by kernel_rfl
theorem law_kw : kwWritten? (defAt 25).params.kwonlyargs (defAt 25).params.kw_defaults = some [] := by kernel_rfl
theorem law_dfl : (defAt 25).params.defaults = [] := by kernel_rfl
theorem law_name : (defAt 25).name = "law" := by kernel_rfl

theorem mem_of_look {α : Type} {x : Str} {v : α} : ∀ {l : List (Str × α)}, l.lookup x = some v → ∃ e ∈ l, e.1 = x
  | [], h => by cases h
  | (y, u) :: r, h => by
    rw [List.lookup_cons] at h
    split at h
    · rename_i hq
      exact ⟨_, List.mem_cons_self .., (eq_of_beq hq).symm⟩
    · obtain ⟨e, he, hx⟩ := mem_of_look h
      exact ⟨e, List.mem_cons_of_mem _ he, hx⟩

theorem top_ran {w : World} {s0 : Shared} {mg0 mb : Str → Option Value} (S : S0 w s0 mg0 mb) (hz : s0.asleep) :
    ∃ s1, TopRan pw w s0 s1 ∧ s1.gens = #[] ∧ s1.asleep ∧ 0 < s1.toks ∧ isTheDefsW pw s1.heap "law" ∧ ∃ mg, Top pw w s1.heap mg mb := by
  obtain ⟨n, s1, t1, hrun, hth, hlife, htk, c, Pl, h1, tk, mg, l, hk, hsz, hP, T⟩ := thread_through (prog := pw) (w := w) (s := s0) hz
    (R := fun s' => ∃ c Pl h1 tk mg l, (∀ b o, s0.heap.get? b = some o → h1.get? b = some o) ∧ s0.heap.objs.size ≤ h1.objs.size ∧ s0.heap.objs.size ≤ Pl ∧
      TSt pw w { s0 with heap := h1, toks := tk } s' c Pl mg0 mg (pwBs ++ []) l)
    (wpAny_mono (run_top (Q := fun s' => (∃ c Pl h1 tk mg l, (∀ b o, s0.heap.get? b = some o → h1.get? b = some o) ∧ s0.heap.objs.size ≤ h1.objs.size ∧ s0.heap.objs.size ≤ Pl ∧
      TSt pw w { s0 with heap := h1, toks := tk } s' c Pl mg0 mg (pwBs ++ []) l) ∧ s'.gens = #[]) S.g S.bmain fun c Pl h1 tk s' mg l hk hsz hP T => ⟨⟨c, Pl, h1, tk, mg, l, hk, hsz, hP, T⟩, by rw [T.same]; exact S.gens⟩) (fun _ _ x => x) fun _ _ x => x)
  have hos : s1.os = s0.os := by rw [T.same]
  have hgens : s1.gens = #[] := by rw [T.same]; exact S.gens
  have keep : ∀ b o, b ≠ mainGlobals → s0.heap.get? b = some o → s1.heap.get? b = some o := fun b o hb e =>
    T.keep b o (Nat.ne_of_lt (Nat.lt_of_lt_of_le (Heap.lt_size e) hP)) hb (hk b o e)
  have eS : s1.heap.get? cStatics = s0.heap.get? cStatics := by
    obtain ⟨mm, ⟨o, es, ep, ho, _⟩, _⟩ := S.nolimit
    rw [ho, keep _ o (by decide) ho]
  have eB : s1.heap.get? builtinsNs = s0.heap.get? builtinsNs := by
    obtain ⟨o, es, ep, ho, _⟩ := S.b
    rw [ho, keep _ o (by decide) ho]
  have hG : ∀ x, globalOf s1.heap x = mg x := Claim2Try.globalOf_of_ns T.main.g
  have hG0 : ∀ x, globalOf s0.heap x = mg0 x := Claim2Try.globalOf_of_ns S.g
  refine ⟨s1, ⟨⟨n, t1, hrun, hth⟩, hlife, Shared.rest_eq hos, fun b o e hb => keep b o (fun q => hb (.inl q)) e, ?_, ?_, Pin.keysAreStrs_of_ns T.main.g, ?_, ?_, ?_, fun x v hx => ?_, fun x hx => ?_⟩, hgens, Shared.asleep_of_life hlife hz, Nat.lt_of_lt_of_le S.toks htk, ?_, mg, top_of S T hk hP⟩
  · rw [mods_pw]
    unfold staticsAccountedI
    rw [staticOf_same eS]
    exact S.acc
  · intro key
    rw [staticOf_same eS]
    exact .inl rfl
  · intro x hx
    rw [builtinOf_same eB]
    exact S.blt x hx
  · obtain ⟨bm, o, h1, _, _, _, h2, h3, h4, _⟩ := T.main.bmod
    exact ⟨bm, o, (hG _).trans h1, h2, h3, h4⟩
  · rw [hgens]
    intro g hg
    simp at hg
  · rw [hG] at hx
    cases hb : pwBs.lookup x with
    | none =>
      rw [bs_none T (by rw [hb]; rfl)] at hx
      refine .inl (Decidable.byContradiction fun hn => ?_)
      rw [S.names x hn] at hx; cases hx
    | some tv =>
      obtain ⟨e, he, rfl⟩ := mem_of_look hb
      exact .inr (List.contains_iff_mem.mp (List.all_eq_true.mp look_bound e he))
  · rw [hG, hG0]
    exact bs_none T (List.all_eq_true.mp look_laid x hx)
  · obtain ⟨a, o, pm, c', doc, h1, h2, h3, h4⟩ := defs_of T (d := defAt 25) (by simp [defs])
    rw [law_name] at h1 h3
    exact ⟨a, o, _, _, _, _, (hG _).trans h1, h2, h3, law_def, rfl, rfl, rfl, rfl, rfl, rfl, rfl, rfl, .inl ⟨law_dfl, rfl⟩, [], law_kw, .inl ⟨rfl, rfl⟩⟩
end Mine

namespace Mine
open PySem PySem.W PySem.Calls PyProof.Rows

abbrev rw0 : OpenRow := PySem.Challenge.rw_to0029_01.row
abbrev cl0 : ClaimW := rw0.toRowW.claim

theorem open_well : opensWell pw = true := by kernel_rfl
theorem bare_pw : pw.bare := ⟨rfl, rfl, rfl, rfl, rfl, by decide +kernel⟩
theorem promised_0 : rw0.toRowW.promised := ⟨[.list [.int 1, .int 2]], by decide +kernel, by decide +kernel⟩

theorem ints_of {R : WRecords} : ∀ {xs : List WData}, WShape.hasItems R xs .int = true → ∃ ns : List Int, xs = ns.map .int
  | [], _ => ⟨[], rfl⟩
  | d :: r, h => by
    have h' : WShape.has R d .int = true ∧ WShape.hasItems R r .int = true := by simpa [WShape.hasItems] using h
    obtain ⟨i, rfl⟩ := hasW_int h'.1
    obtain ⟨ns, rfl⟩ := ints_of h'.2
    exact ⟨i :: ns, rfl⟩
theorem rels_ints {P : Params} {h : Heap} {X : List Addr} {n : Nat} : ∀ {ns : List Int} {vs : List Value}, WellAll P h vs (ns.map .int) → Rels X h n (iL ns) vs
  | [], vs, r => by cases r; rfl
  | i :: ns, vs, r => by
    cases r with
    | cons a b =>
      cases a
      exact ⟨_, _, rfl, ⟨_, rfl⟩, rels_ints b⟩
theorem pre_0 {args : List WData} (h : cl0.pre args = true) : ∃ ns : List Int, args = [.list (ns.map .int)] ∧ ns.length ≤ 63 := by
  obtain ⟨h1, h2⟩ := pre_splitW (r := rw0.toRowW) h
  obtain ⟨d, r, rfl, h3, h4⟩ := hasAllW_cons h1
  obtain rfl := hasAllW_nil h4
  obtain ⟨xs, rfl, h5⟩ := hasW_list h3
  obtain ⟨ns, rfl⟩ := ints_of h5
  refine ⟨ns, rfl, ?_⟩
  have h6 : WTm.holds [] (.and (.not (.lt (.lit (.int 63)) (.len (.arg 0)))) (.lit (.bool true))) { args := [.list (ns.map WData.int)] } = true := h2
  have h7 : WTm.value [] (.and (.not (.lt (.lit (.int 63)) (.len (.arg 0)))) (.lit (.bool true))) { args := [.list (ns.map WData.int)] } = some (.bool (!decide ((63 : Int) < (((ns.map WData.int).length : Nat) : Int)))) := by
    simp only [WTm.value, List.getElem?_cons_zero]
    have e : less? (.int 63) (.int (((ns.map WData.int).length : Nat) : Int)) = some (decide ((63 : Int) < (((ns.map WData.int).length : Nat) : Int))) := by
      first | rfl | simp [less?]
    rw [e]
    cases decide ((63 : Int) < (((ns.map WData.int).length : Nat) : Int)) <;> rfl
  unfold WTm.holds at h6
  rw [h7] at h6
  by_cases hq : (63 : Int) < (((ns.map WData.int).length : Nat) : Int)
  · rw [decide_eq_true hq] at h6
    cases h6
  · rw [List.length_map] at hq
    omega

theorem post_0 {ns : List Int} : cl0.post [.list (ns.map .int)] (.bool true) [.list (ns.map .int)] = true := by
  show (WShape.has [] (.bool true) .bool && WTm.holds [] (.eq .res (.lit (.bool true))) { args := [.list (ns.map .int)], res := some (.bool true), after := [.list (ns.map .int)] }) = true
  simp [WShape.has, WShape.arms, WTm.holds, WTm.value, same]

theorem room_caller : Room callerA 7 := ⟨rfl, by decide, by decide⟩

theorem call_0 {w : World} {s s1 : Shared} {mg mb : Str → Option Value} (T : Top pw w s.heap mg mb) (ht : 0 < s.toks) {args : List WData} {vs : List Value} {as : List Addr}
    (hpre : cl0.pre args = true) (L : Laid [] w s s1 args vs as) :
    ∃ f, mg "law" = some f ∧ wpAny (model pw w) callerA (call f vs) (fun v s' => GoodWG cl0 (classAt s.heap) (ExcName.means s.heap) args s1 (.ok (.ret v)) s')
      (fun e s' => GoodWG cl0 (classAt s.heap) (ExcName.means s.heap) args s1 (.error e) s') s1 := by
  obtain ⟨ns, rfl, hl⟩ := pre_0 hpre
  have hW := L.well
  cases hW with
  | cons hv hr =>
  cases hr
  cases hv with
  | @list a vs' _ hget hall =>
  obtain ⟨fa, o, fd, h1, h2, h3, hrun⟩ := fn_law (prog := pw) T (ns := ns) (by omega)
  obtain ⟨ord, hord, hlaid⟩ := L.laid
  have hgo := hrun [] callerA (fun _ _ => False) s1 [.ref a] room_caller ⟨L.keeps, Nat.lt_of_lt_of_le ht ((layAllW_grows _ _ _ hlaid).toks)⟩ .nil (Rels.one ⟨a, vs'.toArray, rfl, List.not_mem_nil, ⟨_, hget⟩, rels_ints hall⟩)
  refine ⟨_, h1, wpAny_mono hgo (fun v s' q => ?_) fun _ _ x => x.elim⟩
  obtain ⟨hv, hk⟩ := q
  have hv' : v = .bool true := hv
  subst hv'
  have hk' := hk
  obtain ⟨h', tk', e, _⟩ := hk'
  refine ⟨.inl ⟨_, .bool true, [], rfl, fun _ => rfl, .bool true, post_0, fun _ => ⟨List.nodup_nil, fun a ha => absurd ha List.not_mem_nil⟩⟩, OldK.of_keep fun b o e => hk.get e, by rw [e], .of_eq (by rw [e]; exact L.gens)⟩

theorem holds_0 : cl0.HoldsOpenBy (callStub "law") ["law"] rw0.keeps false := by
  refine ⟨⟨bare_pw, open_well, rfl⟩, promised_0.witness, fun w => ?_⟩
  have h := boot_pw w
  rw [← table_eq_tree] at h
  obtain ⟨s0, h1, e⟩ := Option.map_eq_some_iff.mp h
  obtain ⟨s, h4, h5⟩ := Option.bind_eq_some_iff.mp h1
  have A := AfterImport.of_importEnds h4
  refine ⟨⟨s, A⟩, fun s' hs' => ?_⟩
  obtain rfl : s' = s := AfterImport.unique hs' A
  have z : s0.asleep := Shared.asleep_of_life (fence_lifeW h5) A.life
  have S := s0_of e
  obtain ⟨s1, hT, hg, hz, ht, hlaw, mg, T⟩ := top_ran S z
  refine ⟨s0, h5, S.gens, s1, hT, fun n hn => ?_, fun x hx => (nomatch hx), fun x hx => (nomatch hx), ?_⟩
  · obtain rfl : n = "law" := by simpa using hn
    exact hlaw
  refine ClaimW.callFrom_of_specG (c := cl0) (tree := fun vs => do match ← nsGet mainNs "law" with
      | some f => do ret (← PySem.call f vs)
      | none => unsupported "claim.caller:no-such-global") hz hg fun args hpre hlay ord hord => ?_
  obtain ⟨⟨vs, s2⟩, hlaid⟩ := Option.isSome_iff_exists.mp (layAllW_isSome (P := w.params) (ord := ord) (R := []) (cl := classAt s1.heap) (fun c hc => (nomatch hc)) args [.list .int] s1 (pre_splitW (r := rw0.toRowW) hpre).1)
  have keeps := layAllW_keeps _ _ _ hlaid
  have hal := layAllW_rest _ _ _ hlaid
  obtain ⟨as, hrd, hin, hold⟩ := reads_layAllW hord _ _ _ hlaid hlay s2.heap (fun _ _ e => e)
  have L : Laid [] w s1 s2 args vs as := ⟨⟨ord, hord, hlaid⟩, hrd, hin, hold, keeps, hal.1.trans hg, hal.2.2.1⟩
  obtain ⟨f, hf, hc⟩ := call_0 T ht hpre L
  have fin : ∀ r s', GoodWG cl0 (classAt s1.heap) (ExcName.means s1.heap) args s2 r s' → cl0.Ends s1 args vs s2 r s' ∧ s'.os = s1.os ∧ AllBare s'.gens :=
    fun r s' g => g.laid (c := cl0) rfl rfl (ident_freeW (r := rw0.toRowW) rfl rfl rfl) L
  refine ⟨vs, s2, hlaid, wpAny_bind (wpAny_nsGet (T.glob.g.keeps keeps) ?_)⟩
  rw [hf]
  refine wpAny_bind (wpAny_mono hc (fun v s' g => wpAny_pure ⟨_, rfl, ?_⟩) fun e s' g => ?_)
  · have z := fin _ _ g
    exact ⟨z.1, z.2.1, z.2.2, fun q => (nomatch q)⟩
  · have z := fin _ _ g
    exact ⟨z.1, z.2.1, z.2.2, fun q => (nomatch q)⟩
end Mine

namespace Mine
open PySem PySem.W PySem.Calls PyProof.Rows
theorem row_holds (said : rw0.wellSaid = true) : rw0.Holds := ⟨said, promised_0, holds_0⟩
end Mine

open PySem PySem.W PySem.Calls PyProof.Rows
set_option maxHeartbeats 8000000 in
theorem PySem.Challenge.cw_to0029_01_holds : PySem.Challenge.rw_to0029_01.Holds := by
  o_law
  rename_i said
  exact Mine.row_holds said
