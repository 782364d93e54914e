import PyProof.Rows.All
import Wide.All
import OpenK.AllK
import Wide.FinOn
import PySem.Challenge.RW_pe0045_01
open PySem PySem.W PySem.W.X PyProof.Rows
set_option Elab.async false
namespace Mine

/-- plain data -/
inductive D where
  | none
  | bool (b : Bool)
  | int (i : Int)
  | str (x : Str)
  | tup (xs : List D)
  | lst (xs : List D)
  | rng (a b c : Int)

mutual
/-- the value v reads as d; no list of `own` is met -/
inductive RD (own : List Addr) (h : Heap) : Value → D → Prop
  | none : RD own h .none .none
  | bool (b : Bool) : RD own h (.bool b) (.bool b)
  | int (i : Int) (t : Tok) : RD own h (.int i t) (.int i)
  | str (x : Str) (t : Tok) : RD own h (.str x t) (.str x)
  | tup {a : Addr} {vs : Array Value} {ds : List D} : h.IsTuple a vs → RDs own h vs.toList ds → RD own h (.ref a) (.tup ds)
  | lst {a : Addr} {vs : Array Value} {ds : List D} : h.PlainList a vs → a ∉ own → RDs own h vs.toList ds → RD own h (.ref a) (.lst ds)
  | rng {r : Addr} {a b c : Int} {t u v : Tok} : IsRange h r a b c t u v → RD own h (.ref r) (.rng a b c)
inductive RDs (own : List Addr) (h : Heap) : List Value → List D → Prop
  | nil : RDs own h [] []
  | cons {v : Value} {vs : List Value} {d : D} {ds : List D} : RD own h v d → RDs own h vs ds → RDs own h (v :: vs) (d :: ds)
end

/-- what a change of the heap may touch: dicts, cells, and the lists of X -/
noncomputable def KpS (X : List Addr) (h h' : Heap) : Prop := ∀ b o, h.get? b = some o → b ∉ X → (∀ es n, o.data ≠ .dict es n) → (∀ v, o.data ≠ .cell v) → h'.get? b = some o

/-- lists (but those of `own`), tuples and ranges stay -/
noncomputable def KpR (own : List Addr) (h h' : Heap) : Prop := ∀ b o, h.get? b = some o → (o.cls = .type "list" ∨ o.cls = .type "tuple" ∨ o.cls = .type "range") → (∀ es n, o.data ≠ .dict es n) → (∀ v, o.data ≠ .cell v) →
  (o.cls = .type "list" → b ∉ own) → h'.get? b = some o
theorem KpS.toR {X own : List Addr} {h h' : Heap} (k : KpS X h h') (hX : ∀ b ∈ X, b ∈ own ∧ ∃ vs, h.IsList b vs) : KpR own h h' := fun b o e _ h1 h2 h3 => k b o e (fun hm => by
  obtain ⟨ho, vs, o', ho', hc', _⟩ := hX b hm
  rw [e] at ho'; cases ho'
  exact h3 hc' ho) h1 h2
theorem kpR_of_sameBut {I : Addr} {own : List Addr} {h h' : Heap} (hs : Heap.SameBut I h h') (hI : ∀ o, h.get? I = some o → o.cls ≠ .type "list" ∧ o.cls ≠ .type "tuple" ∧ o.cls ≠ .type "range") : KpR own h h' := fun b o e hc _ _ _ =>
  hs.extBut b o (fun q => by subst q; have := hI o e; rcases hc with c | c | c <;> simp [c] at this) e
theorem kpR_of {own : List Addr} {h h' : Heap} (k : ∀ b o, h.get? b = some o → h'.get? b = some o) : KpR own h h' := fun b o e _ _ _ _ => k b o e

theorem isTuple_kpr {own : List Addr} {h h' : Heap} (k : KpR own h h') {a : Addr} {vs : Array Value} (x : h.IsTuple a vs) : h'.IsTuple a vs := by
  obtain ⟨o, ho, hc, n, hd⟩ := x
  exact ⟨o, k a o ho (.inr (.inl hc)) (fun es n e => by rw [hd] at e; cases e) (fun v e => by rw [hd] at e; cases e) (fun e => by rw [hc] at e; simp at e), hc, n, hd⟩
theorem isList_kpr {own : List Addr} {h h' : Heap} (k : KpR own h h') {a : Addr} {vs : Array Value} (x : h.PlainList a vs) (ha : a ∉ own) : h'.PlainList a vs := by
  obtain ⟨n, ho⟩ := x
  exact ⟨n, k a _ ho (.inl rfl) (fun es n e => by cases e) (fun v e => by cases e) fun _ => ha⟩
theorem isRange_kpr {own : List Addr} {h h' : Heap} (k : KpR own h h') {r : Addr} {a b c : Int} {t u v : Tok} (x : IsRange h r a b c t u v) : IsRange h' r a b c t u v :=
  k r _ x (.inr (.inr rfl)) (fun es n e => by cases e) (fun v e => by cases e) fun e => by simp at e

mutual
theorem RD.kpr {own : List Addr} {h h' : Heap} (k : KpR own h h') : ∀ {v : Value} {d : D}, RD own h v d → RD own h' v d
  | _, _, .none => .none
  | _, _, .bool b => .bool b
  | _, _, .int i t => .int i t
  | _, _, .str x t => .str x t
  | _, _, .tup x r => .tup (isTuple_kpr k x) (RDs.kpr k r)
  | _, _, .lst x n r => .lst (isList_kpr k x n) n (RDs.kpr k r)
  | _, _, .rng x => .rng (isRange_kpr k x)
theorem RDs.kpr {own : List Addr} {h h' : Heap} (k : KpR own h h') : ∀ {vs : List Value} {ds : List D}, RDs own h vs ds → RDs own h' vs ds
  | _, _, .nil => .nil
  | _, _, .cons r rs => .cons (RD.kpr k r) (RDs.kpr k rs)
end
theorem RD.kps {X own : List Addr} {h h' : Heap} (k : KpS X h h') (hX : ∀ b ∈ X, b ∈ own ∧ ∃ vs, h.IsList b vs) {v : Value} {d : D} (r : RD own h v d) : RD own h' v d := r.kpr (k.toR hX)
theorem RDs.kps {X own : List Addr} {h h' : Heap} (k : KpS X h h') (hX : ∀ b ∈ X, b ∈ own ∧ ∃ vs, h.IsList b vs) {v : List Value} {d : List D} (r : RDs own h v d) : RDs own h' v d := r.kpr (k.toR hX)
theorem kpS_of {h h' : Heap} (k : ∀ b o, h.get? b = some o → h'.get? b = some o) (X : List Addr) : KpS X h h' := fun b o e _ _ _ => k b o e
theorem RD.keeps {own : List Addr} {h h' : Heap} (k : ∀ b o, h.get? b = some o → h'.get? b = some o) {v : Value} {d : D} (r : RD own h v d) : RD own h' v d := r.kps (kpS_of k []) (by simp)
theorem RDs.keeps {own : List Addr} {h h' : Heap} (k : ∀ b o, h.get? b = some o → h'.get? b = some o) {v : List Value} {d : List D} (r : RDs own h v d) : RDs own h' v d := r.kps (kpS_of k []) (by simp)

mutual
theorem RD.sub {own own' : List Addr} {h : Heap} (k : ∀ b, b ∈ own' → (∃ o, h.get? b = some o) → b ∈ own) : ∀ {v : Value} {d : D}, RD own h v d → RD own' h v d
  | _, _, .none => .none
  | _, _, .bool b => .bool b
  | _, _, .int i t => .int i t
  | _, _, .str x t => .str x t
  | _, _, .tup x r => .tup x (RDs.sub k r)
  | _, _, .lst x n r => .lst x (fun hm => n (k _ hm (let ⟨_, ho⟩ := x; ⟨_, ho⟩))) (RDs.sub k r)
  | _, _, .rng x => .rng x
theorem RDs.sub {own own' : List Addr} {h : Heap} (k : ∀ b, b ∈ own' → (∃ o, h.get? b = some o) → b ∈ own) : ∀ {vs : List Value} {ds : List D}, RDs own h vs ds → RDs own' h vs ds
  | _, _, .nil => .nil
  | _, _, .cons r rs => .cons (RD.sub k r) (RDs.sub k rs)
end

theorem RDs.get {own : List Addr} {h : Heap} : ∀ {vs : List Value} {ds : List D}, RDs own h vs ds → ∀ {i : Nat} {d : D}, ds[i]? = some d → ∃ v, vs[i]? = some v ∧ RD own h v d
  | _, _, .nil, i, d, e => by simp at e
  | _, _, .cons r rs, 0, d, e => by simp at e; subst e; exact ⟨_, rfl, r⟩
  | _, _, .cons r rs, i + 1, d, e => by simp at e; simpa using rs.get e
theorem RDs.get' {own : List Addr} {h : Heap} : ∀ {vs : List Value} {ds : List D}, RDs own h vs ds → ∀ {i : Nat} {v : Value}, vs[i]? = some v → ∃ d, ds[i]? = some d ∧ RD own h v d
  | _, _, .nil, i, d, e => by simp at e
  | _, _, .cons r rs, 0, d, e => by simp at e; subst e; exact ⟨_, rfl, r⟩
  | _, _, .cons r rs, i + 1, d, e => by simp at e; simpa using rs.get' e
theorem RDs.length {own : List Addr} {h : Heap} : ∀ {vs : List Value} {ds : List D}, RDs own h vs ds → vs.length = ds.length
  | _, _, .nil => rfl
  | _, _, .cons _ rs => by simp [rs.length]
theorem RDs.append {own : List Addr} {h : Heap} : ∀ {vs vs' : List Value} {ds ds' : List D}, RDs own h vs ds → RDs own h vs' ds' → RDs own h (vs ++ vs') (ds ++ ds')
  | _, _, _, _, .nil, r => r
  | _, _, _, _, .cons a b, r => .cons a (b.append r)
theorem RDs.drop {own : List Addr} {h : Heap} : ∀ {vs : List Value} {ds : List D} (n : Nat), RDs own h vs ds → RDs own h (vs.drop n) (ds.drop n)
  | _, _, 0, r => by simpa using r
  | _, _, n + 1, .nil => .nil
  | _, _, n + 1, .cons _ r => by simpa using r.drop n
theorem RDs.take {own : List Addr} {h : Heap} : ∀ {vs : List Value} {ds : List D} (n : Nat), RDs own h vs ds → RDs own h (vs.take n) (ds.take n)
  | _, _, 0, _ => by simp; exact .nil
  | _, _, n + 1, .nil => .nil
  | _, _, n + 1, .cons a r => by simpa using .cons a (r.take n)
theorem RDs.mono {own : List Addr} {h : Heap} {vs : List Value} {ds : List D} (r : RDs own h vs ds) {vs' : List Value} {ds' : List D} (e : vs' = vs) (e' : ds' = ds) : RDs own h vs' ds' := by subst e e'; exact r

noncomputable def GX (g g' : Array GenState) : Prop := ∃ l : List GenState, g'.toList = g.toList ++ l ∧ ∀ y ∈ l, y.bare = true
theorem GX.refl (g : Array GenState) : GX g g := ⟨[], by simp, by simp⟩
theorem GX.trans {g g' g'' : Array GenState} (x : GX g g') (y : GX g' g'') : GX g g'' := by
  obtain ⟨l, e, h⟩ := x
  obtain ⟨l', e', h'⟩ := y
  exact ⟨l ++ l', by rw [e', e, List.append_assoc], fun z hz => (List.mem_append.mp hz).elim (h z) (h' z)⟩

/-- nothing that stood is changed -/
structure Kp (s s' : Shared) : Prop where
  heap : ∀ b o, s.heap.get? b = some o → s'.heap.get? b = some o
  os : s'.os = s.os
  gens : GX s.gens s'.gens
theorem Kp.refl (s : Shared) : Kp s s := ⟨fun _ _ e => e, rfl, .refl _⟩
theorem Kp.trans {s s' s'' : Shared} (x : Kp s s') (y : Kp s' s'') : Kp s s'' := ⟨fun b o e => y.heap b o (x.heap b o e), y.os.trans x.os, x.gens.trans y.gens⟩
theorem Kp.mk' {s : Shared} {h' : Heap} {tk : Nat} (k : ∀ b o, s.heap.get? b = some o → h'.get? b = some o) : Kp s { s with heap := h', toks := tk } := ⟨k, rfl, .refl _⟩
theorem Kp.tk {s : Shared} {tk : Nat} : Kp s { s with toks := tk } := ⟨fun _ _ e => e, rfl, .refl _⟩
theorem Kp.push {s : Shared} {o : Obj} {tk : Nat} : Kp s { s with heap := s.heap.push o, toks := tk } := ⟨fun _ _ e => Heap.get?_push_of_some _ e, rfl, .refl _⟩
theorem Kp.push' {s : Shared} {o : Obj} : Kp s { s with heap := s.heap.push o } := ⟨fun _ _ e => Heap.get?_push_of_some _ e, rfl, .refl _⟩

noncomputable def VarIs (E : Env) (h : Heap) (x : Str) (v : Value) : Prop :=
  (E.kindOf x = some .local ∧ ∃ m, h.Ns E.locals m ∧ m x = some v) ∨
  ((E.kindOf x = some .cell ∨ (E.kindOf x = some .free ∧ (x == ("__classdict__" : Str)) = false)) ∧ ∃ c, E.cells.lookup x = some c ∧ h.IsCell c (some v))
theorem VarIs.keeps {E : Env} {h h' : Heap} {x : Str} {v : Value} (k : ∀ b o, h.get? b = some o → h'.get? b = some o) (r : VarIs E h x v) : VarIs E h' x v :=
  r.imp (fun ⟨a, m, b, c⟩ => ⟨a, m, b.keeps k, c⟩) fun ⟨a, c, b, d⟩ => ⟨a, c, b, d.keeps k⟩

structure EV (h₁ : Heap) (own : List Addr) (E : Env) (ρ : Str → Option D) (s : Shared) : Prop where
  base : ∀ b o, h₁.get? b = some o → s.heap.get? b = some o
  kind : E.scope.kind = .function
  globals : E.globals = mainGlobals
  builtins : E.builtins = builtinsNs
  live : ∀ a ∈ own, ∃ o, s.heap.get? a = some o
  var : ∀ x d, ρ x = some d → ∃ v, VarIs E s.heap x v ∧ RD own s.heap v d
theorem EV.kp {h₁ : Heap} {own : List Addr} {E : Env} {ρ : Str → Option D} {s s' : Shared} (x : EV h₁ own E ρ s) (k : Kp s s') : EV h₁ own E ρ s' :=
  ⟨fun b o e => k.heap b o (x.base b o e), x.kind, x.globals, x.builtins, fun a ha => let ⟨o, ho⟩ := x.live a ha; ⟨o, k.heap a o ho⟩,
    fun y d e => let ⟨v, hv, r⟩ := x.var y d e; ⟨v, hv.keeps k.heap, r.keeps k.heap⟩⟩

structure Rm (A : Around) (k : Nat) : Prop where
  hh : A.handled = none
  dp : A.depth + k < 900
  un : A.units + 30 * k < 9000

section
variable {prog : Program} {w : World} {A : Around} {Err : Value → Shared → Prop} {s : Shared} {E : Env} {ρ : Str → Option D} {own : List Addr} {h₁ : Heap}

theorem load_var {x : Str} {d : D} {Q : Value → Shared → Prop} (I : EV h₁ own E ρ s) (e : ρ x = some d) (h : ∀ v, RD own s.heap v d → Q v s) : wpAny (model prog w) A (loadName E x) Q Err s := by
  obtain ⟨v, hv, r⟩ := I.var x d e
  rcases hv with ⟨hk, m, hn, hm⟩ | ⟨hk, c, hc, hv⟩
  · exact wpAny_loadName_local I.kind hk hn hm (h v r)
  · rcases hk with hk | ⟨hk, hx⟩
    · exact wpAny_loadName_cell I.kind hk hc hv (h v r)
    · exact wpAny_loadName_free I.kind hk hc hv (h v r) hx
end
end Mine
namespace Mine

mutual
noncomputable def D.py : D → Option PyData
  | .none => some .none
  | .bool b => some (.bool b)
  | .int i => some (.int i)
  | .str _ => Option.none
  | .tup xs => match D.pys xs with | some ys => some (.tuple ys) | Option.none => Option.none
  | .lst xs => match D.pys xs with | some ys => some (.list ys) | Option.none => Option.none
  | .rng _ _ _ => Option.none
noncomputable def D.pys : List D → Option (List PyData)
  | [] => some []
  | d :: ds => match D.py d, D.pys ds with | some y, some ys => some (y :: ys) | _, _ => Option.none
end
mutual
theorem RD.reads {own : List Addr} {h : Heap} : ∀ {d : D} {v : Value} {p : PyData}, RD own h v d → d.py = some p → ∃ as, Reads h v p as
  | .none, _, _, r, e => by cases r; rw [D.py] at e; cases e; exact ⟨_, .none⟩
  | .bool b, _, _, r, e => by cases r; rw [D.py] at e; cases e; exact ⟨_, .bool b⟩
  | .int i, _, _, r, e => by cases r; rw [D.py] at e; cases e; exact ⟨_, .int i _⟩
  | .str x, _, _, _, e => by rw [D.py] at e; cases e
  | .tup xs, _, p, r, e => by
    cases r with | tup hx r => ?_
    rw [D.py] at e
    cases q : D.pys xs with
    | none => rw [q] at e; cases e
    | some ys =>
      rw [q] at e; cases e
      obtain ⟨as, ra⟩ := RDs.reads r q
      obtain ⟨o, ho, hc, n, hd⟩ := hx
      exact ⟨_, .tuple ho hc hd ra⟩
  | .lst xs, _, p, r, e => by
    cases r with | lst hx _ r => ?_
    rw [D.py] at e
    cases q : D.pys xs with
    | none => rw [q] at e; cases e
    | some ys =>
      rw [q] at e; cases e
      obtain ⟨as, ra⟩ := RDs.reads r q
      obtain ⟨o, ho, hc, n, hd⟩ := hx.isList
      exact ⟨_, .list ho hc hd ra⟩
  | .rng _ _ _, _, _, _, e => by rw [D.py] at e; cases e
theorem RDs.reads {own : List Addr} {h : Heap} : ∀ {ds : List D} {vs : List Value} {ps : List PyData}, RDs own h vs ds → D.pys ds = some ps → ∃ as, ReadsAll h vs ps as
  | [], _, _, r, e => by cases r; rw [D.pys] at e; cases e; exact ⟨_, .nil⟩
  | d :: ds, _, ps, r, e => by
    cases r with | cons r rs => ?_
    rw [D.pys] at e
    cases q : D.py d with
    | none => rw [q] at e; cases e
    | some y =>
      cases q' : D.pys ds with
      | none => rw [q, q'] at e; cases e
      | some ys =>
        rw [q, q'] at e; cases e
        obtain ⟨as, ra⟩ := RD.reads r q
        obtain ⟨bs, rb⟩ := RDs.reads rs q'
        exact ⟨_, .cons ra rb⟩
end
mutual
theorem D.py_lay : ∀ {d : D} {p : PyData}, d.py = some p → p.canLay0 = true
  | .none, _, e => by rw [D.py] at e; cases e; simp [PyData.canLay0]
  | .bool _, _, e => by rw [D.py] at e; cases e; simp [PyData.canLay0]
  | .int _, _, e => by rw [D.py] at e; cases e; simp [PyData.canLay0]
  | .str _, _, e => by rw [D.py] at e; cases e
  | .tup xs, _, e => by
    rw [D.py] at e
    cases q : D.pys xs with
    | none => rw [q] at e; cases e
    | some ys => rw [q] at e; cases e; simpa [PyData.canLay0] using D.pys_lay q
  | .lst xs, _, e => by
    rw [D.py] at e
    cases q : D.pys xs with
    | none => rw [q] at e; cases e
    | some ys => rw [q] at e; cases e; simpa [PyData.canLay0] using D.pys_lay q
  | .rng _ _ _, _, e => by rw [D.py] at e; cases e
theorem D.pys_lay : ∀ {ds : List D} {ps : List PyData}, D.pys ds = some ps → PyData.canLayAll0 ps = true
  | [], _, e => by rw [D.pys] at e; cases e; simp [PyData.canLayAll0]
  | d :: ds, _, e => by
    rw [D.pys] at e
    cases q : D.py d with
    | none => rw [q] at e; cases e
    | some y =>
      cases q' : D.pys ds with
      | none => rw [q, q'] at e; cases e
      | some ys => rw [q, q'] at e; cases e; simp [PyData.canLayAll0, D.py_lay q, D.pys_lay q']
end

inductive WO : Operator → D → D → Type
  | add (x y : Int) : WO .Add (.int x) (.int y)
  | sub (x y : Int) : WO .Sub (.int x) (.int y)
  | mul (x y : Int) : WO .Mult (.int x) (.int y)
  | fdiv (x y : Int) : WO .FloorDiv (.int x) (.int y)
  | fmod (x y : Int) : WO .Mod (.int x) (.int y)
  | pow (x y : Int) : WO .Pow (.int x) (.int y)
  | addS (x y : Str) : WO .Add (.str x) (.str y)
  | addL (x y : List D) : WO .Add (.lst x) (.lst y)
  | no (op : Operator) (a b : D) : WO op a b
noncomputable def wo : (op : Operator) → (a b : D) → WO op a b
  | .Add, .int x, .int y => .add x y
  | .Sub, .int x, .int y => .sub x y
  | .Mult, .int x, .int y => .mul x y
  | .FloorDiv, .int x, .int y => .fdiv x y
  | .Mod, .int x, .int y => .fmod x y
  | .Pow, .int x, .int y => .pow x y
  | .Add, .str x, .str y => .addS x y
  | .Add, .lst x, .lst y => .addL x y
  | op, a, b => .no op a b
noncomputable def binW {op : Operator} {a b : D} (v : WO op a b) : Option D :=
  WO.casesOn (motive := fun _ _ _ _ => Option D) v
    (fun x y => some (.int (x + y)))
    (fun x y => some (.int (x - y)))
    (fun x y => if x.natAbs < 1000000 then some (.int (x * y)) else none)
    (fun x y => if y ≠ 0 ∧ y.natAbs < 1000000 then some (.int (x.fdiv y)) else none)
    (fun x y => if y ≠ 0 then some (.int (x.fmod y)) else none)
    (fun x y => if 0 ≤ y ∧ y ≤ 20 ∧ x.natAbs < 1000 then some (.int (x ^ y.toNat)) else none)
    (fun x y => if x.length + y.length ≤ 10000 then some (.str (x ++ y)) else none)
    (fun x y => if x.length + y.length ≤ 10000 then some (.lst (x ++ y)) else none)
    (fun _ _ _ => none)
noncomputable def binD (op : Operator) (a b : D) : Option D := binW (wo op a b)

section
variable {prog : Program} {w : World} {A : Around} {Err : Value → Shared → Prop} {s : Shared} {own : List Addr}

theorem fresh_notin {h : Heap} (live : ∀ a ∈ own, ∃ o, h.get? a = some o) : h.objs.size ∉ own := fun hm => by
  obtain ⟨o, ho⟩ := live _ hm
  exact Nat.lt_irrefl _ (Heap.lt_size ho)

theorem pow_bits {x y : Int} (h0 : 0 ≤ y) (h1 : y ≤ 20) (h2 : x.natAbs < 1000) : (Builtin.Int.intBits x : Int) * y ≤ 2 ^ 27 := by
  have hb : Builtin.Int.intBits x ≤ 64 := intBits_le_64 (by omega) (by omega)
  have h3 : (Builtin.Int.intBits x : Int) * y ≤ 64 * 20 := Int.mul_le_mul (by omega) h1 h0 (by omega)
  omega

theorem binop_sound {op : Operator} {a b : D} {d : D} {v u : Value} {Q : Value → Shared → Prop} (live : ∀ a ∈ own, ∃ o, s.heap.get? a = some o)
    (e : binD op a b = some d) (ra : RD own s.heap v a) (rb : RD own s.heap u b) (h : ∀ v' s', Kp s s' → RD own s'.heap v' d → Q v' s') : wpAny (model prog w) A (binaryOp op v u) Q Err s := by
  unfold binD at e
  generalize wo op a b = vv at e
  cases vv <;> dsimp only [binW] at e
  · cases e; cases ra; cases rb
    exact add_int (h _ _ .tk (.int _ _))
  · cases e; cases ra; cases rb
    exact sub_int' (h _ _ .tk (.int _ _))
  · split at e
    · cases e; cases ra; cases rb
      rename_i hx _ _
      exact mul_int (h _ _ .tk (.int _ _)) (hm := IntMulOk.of_left (intBits_le_64 (by omega) (by omega)))
    · cases e
  · split at e
    · cases e; cases ra; cases rb
      rename_i hx _ _
      exact floordiv_int hx.1 (h _ _ .tk (.int _ _)) (hp := Or.inl (PyProof.noPylong_small (by omega)))
    · cases e
  · split at e
    · cases e; cases ra; cases rb
      rename_i hx _ _
      exact mod_int' hx (h _ _ .tk (.int _ _))
    · cases e
  · split at e
    · cases e; cases ra; cases rb
      rename_i hx _ _
      exact pow_int hx.1 (pow_bits hx.1 hx.2.1 hx.2.2) (h _ _ .tk (.int _ _))
    · cases e
  · split at e
    · cases e; cases ra; cases rb
      rename_i hx _ _
      exact add_str (fun t' tk => h _ _ .tk (.str _ _)) (hsz := by rw [sizeLine_eq]; omega)
    · cases e
  · split at e
    · cases e
      rename_i hx
      cases ra with
      | lst hl ho r =>
        cases rb with
        | lst hl' ho' r' =>
          obtain ⟨n, hl⟩ := hl
          obtain ⟨n', hl'⟩ := hl'
          have l1 := r.length
          have l2 := r'.length
          simp only [Array.length_toList] at l1 l2
          refine PySem.P.add_list hl hl' (h _ _ .push' (.lst ⟨_, Heap.get?_push_size _ rfl⟩ (fresh_notin live) ?_)) (hsz := by rw [sizeLine_eq]; omega)
          exact ((r.append r').mono (by simp) rfl).keeps fun b o e => Heap.get?_push_of_some _ e
    · cases e
  · cases e
end
end Mine
namespace Mine

noncomputable def isNone : D → Bool
  | .none => true
  | _ => false
inductive WC : CmpOp → D → D → Type
  | eqI (x y : Int) : WC .Eq (.int x) (.int y)
  | neI (x y : Int) : WC .NotEq (.int x) (.int y)
  | ltI (x y : Int) : WC .Lt (.int x) (.int y)
  | eqS (x y : Str) : WC .Eq (.str x) (.str y)
  | eqL (x y : List D) : WC .Eq (.lst x) (.lst y)
  | inL (x : Int) (y : List D) : WC .In (.int x) (.lst y)
  | notInL (x : Int) (y : List D) : WC .NotIn (.int x) (.lst y)
  | notInS (y x : Str) : WC .NotIn (.str y) (.str x)
  | isB (x y : Bool) : WC .Is (.bool x) (.bool y)
  | isNotB (x y : Bool) : WC .IsNot (.bool x) (.bool y)
  | isN (x : D) : WC .Is x .none
  | no (op : CmpOp) (a b : D) : WC op a b
noncomputable def wc : (op : CmpOp) → (a b : D) → WC op a b
  | .Eq, .int x, .int y => .eqI x y
  | .NotEq, .int x, .int y => .neI x y
  | .Lt, .int x, .int y => .ltI x y
  | .Eq, .str x, .str y => .eqS x y
  | .Eq, .lst x, .lst y => .eqL x y
  | .In, .int x, .lst y => .inL x y
  | .NotIn, .int x, .lst y => .notInL x y
  | .NotIn, .str y, .str x => .notInS y x
  | .Is, .bool x, .bool y => .isB x y
  | .IsNot, .bool x, .bool y => .isNotB x y
  | .Is, x, .none => .isN x
  | op, a, b => .no op a b
noncomputable def cmpW {op : CmpOp} {a b : D} (v : WC op a b) : Option D :=
  WC.casesOn (motive := fun _ _ _ _ => Option D) v
    (fun x y => some (.bool (x == y)))
    (fun x y => some (.bool (x != y)))
    (fun x y => some (.bool (decide (x < y))))
    (fun x y => some (.bool (x == y)))
    (fun xs ys => match D.pys xs, D.pys ys with
      | some p, some q => if (PyData.list p).depth ≤ 100 then some (.bool (PyData.eqv (.list p) (.list q))) else Option.none
      | _, _ => Option.none)
    (fun x ys => match D.pys ys with
      | some q => some (.bool (q.any fun y => PyData.eqv y (.int x)))
      | _ => Option.none)
    (fun x ys => match D.pys ys with
      | some q => some (.bool (!q.any fun y => PyData.eqv y (.int x)))
      | _ => Option.none)
    (fun y x => some (.bool (!(!(Builtin.Str.occurrences x y 0 x.length 1).isEmpty))))
    (fun x y => some (.bool (x == y)))
    (fun x y => some (.bool (x != y)))
    (fun x => some (.bool (isNone x)))
    (fun _ _ _ => Option.none)
noncomputable def cmpD (op : CmpOp) (a b : D) : Option D := cmpW (wc op a b)

theorem D.py_lst {xs : List D} {p : List PyData} (h : D.pys xs = some p) : (D.lst xs).py = some (PyData.list p) := by rw [D.py, h]
theorem D.py_int {i : Int} : (D.int i).py = some (PyData.int i) := by rw [D.py]
section
variable {prog : Program} {w : World} {A : Around} {Err : Value → Shared → Prop} {s : Shared} {own : List Addr}
theorem is_bools {x y : Bool} {Q : Value → Shared → Prop} (h : Q (.bool (x == y)) s) : wpAny (model prog w) A (compareOp .Is (.bool x) (.bool y)) Q Err s := by
  have e : (Value.bool x == Value.bool y) = (x == y) := by cases x <;> cases y <;> rfl
  rw [← e] at h
  exact fun _ _ _ => h
theorem isNot_bools {x y : Bool} {Q : Value → Shared → Prop} (h : Q (.bool (x != y)) s) : wpAny (model prog w) A (compareOp .IsNot (.bool x) (.bool y)) Q Err s := by
  have e : (!(Value.bool x == Value.bool y)) = (x != y) := by cases x <;> cases y <;> rfl
  rw [← e] at h
  exact fun _ _ _ => h
theorem isNone_val {h : Heap} {v : Value} {d : D} (r : RD own h v d) : (v == .none) = isNone d := by cases r <;> rfl

theorem cmp_sound {op : CmpOp} {a b : D} {d : D} {v u : Value} {Q : Value → Shared → Prop} (rm : Rm A 0)
    (e : cmpD op a b = some d) (ra : RD own s.heap v a) (rb : RD own s.heap u b) (h : ∀ v', RD own s.heap v' d → Q v' s) : wpAny (model prog w) A (compareOp op v u) Q Err s := by
  have hu := rm.un
  unfold cmpD at e
  generalize wc op a b = vv at e
  cases vv <;> dsimp only [cmpW] at e
  · cases e; cases ra; cases rb
    exact eq_int (h _ (.bool _))
  · cases e; cases ra; cases rb
    exact ne_int (h _ (.bool _))
  · cases e; cases ra; cases rb
    exact lt_int (h _ (.bool _))
  · cases e; cases ra; cases rb
    exact eq_str (h _ (.bool _))
  · split at e
    · rename_i p q hp hq
      split at e
      · rename_i hd
        cases e
        have e1 := D.py_lst hp
        have e2 := D.py_lst hq
        obtain ⟨as, r1⟩ := ra.reads e1
        obtain ⟨bs, r2⟩ := rb.reads e2
        refine SeqAt.compareEq_reads r1 r2 (D.py_lay e1) (D.py_lay e2) ?_ (h _ (.bool _))
        have : cLine = 9900 := rfl
        omega
      · cases e
    · cases e
  · split at e
    · rename_i q hq
      cases e
      have e2 := D.py_lst hq
      obtain ⟨as, r1⟩ := ra.reads D.py_int
      obtain ⟨bs, r2⟩ := rb.reads e2
      refine SeqAt.in_list_reads r2 r1 (D.pys_lay hq) (by simp [PyData.canLay0]) ?_ (h _ (.bool _))
      have : cLine = 9900 := rfl
      simp [PyData.depth]
      omega
    · cases e
  · split at e
    · rename_i q hq
      cases e
      have e2 := D.py_lst hq
      obtain ⟨as, r1⟩ := ra.reads D.py_int
      obtain ⟨bs, r2⟩ := rb.reads e2
      refine SeqAt.notIn_list_reads r2 r1 (D.pys_lay hq) (by simp [PyData.canLay0]) ?_ (h _ (.bool _))
      have : cLine = 9900 := rfl
      simp [PyData.depth]
      omega
    · cases e
  · cases e; cases ra; cases rb
    exact notIn_str (h _ (.bool _))
  · cases e; cases ra; cases rb
    exact is_bools (h _ (.bool _))
  · cases e; cases ra; cases rb
    exact isNot_bools (h _ (.bool _))
  · cases e; cases rb
    refine is_none ?_
    rw [isNone_val ra]
    exact h _ (.bool _)
  · cases e
end
end Mine
namespace Mine

noncomputable def ints? : List D → Option (List Int)
  | [] => some []
  | .int i :: ds => match ints? ds with | some is => some (i :: is) | Option.none => Option.none
  | _ :: _ => Option.none
noncomputable def strs? : List D → Option (List Str)
  | [] => some []
  | .str i :: ds => match strs? ds with | some is => some (i :: is) | Option.none => Option.none
  | _ :: _ => Option.none
theorem RDs.ints {own : List Addr} {h : Heap} {ds : List D} {vs : List Value} {ns : List Int} (r : RDs own h vs ds) (e : ints? ds = some ns) : IntsAre vs ns := by
  induction ds generalizing vs ns with
  | nil => cases r; cases e; exact .nil
  | cons d ds ih =>
    cases r with | cons r rs => ?_
    cases d with
    | int i =>
      replace e : (match ints? ds with | some is => some (i :: is) | Option.none => Option.none) = some ns := e
      cases q : ints? ds with
      | none => rw [q] at e; cases e
      | some is => rw [q] at e; cases e; cases r; exact .cons _ _ (ih rs q)
    | _ => cases e
theorem RDs.strs {own : List Addr} {h : Heap} {ds : List D} {vs : List Value} {ns : List Str} (r : RDs own h vs ds) (e : strs? ds = some ns) : StrsAre vs ns := by
  induction ds generalizing vs ns with
  | nil => cases r; cases e; exact .nil
  | cons d ds ih =>
    cases r with | cons r rs => ?_
    cases d with
    | str i =>
      replace e : (match strs? ds with | some is => some (i :: is) | Option.none => Option.none) = some ns := e
      cases q : strs? ds with
      | none => rw [q] at e; cases e
      | some is => rw [q] at e; cases e; cases r; exact .cons _ _ (ih rs q)
    | _ => cases e

noncomputable def rangeLen (a b c : Int) : Nat := (Builtin.Range.rangeSize a b c).toNat
noncomputable def rangeDs (a b c : Int) : List D := (List.range (rangeLen a b c)).map fun i : Nat => D.int (a + (i : Int) * c)
noncomputable def okRange (a b c : Int) : Bool := Builtin.Range.small a b c && decide (0 ≤ Builtin.Range.rangeSize a b c) && decide (Builtin.Range.rangeSize a b c ≤ 10000)

inductive WB : String → List D → Type
  | lenL (xs : List D) : WB "len" [.lst xs]
  | lenS (x : Str) : WB "len" [.str x]
  | range1 (n : Int) : WB "range" [.int n]
  | range2 (a b : Int) : WB "range" [.int a, .int b]
  | range3 (a b c : Int) : WB "range" [.int a, .int b, .int c]
  | min (a b : Int) : WB "min" [.int a, .int b]
  | max (a b : Int) : WB "max" [.int a, .int b]
  | listL (xs : List D) : WB "list" [.lst xs]
  | listR (a b c : Int) : WB "list" [.rng a b c]
  | no (f : String) (ds : List D) : WB f ds
noncomputable def wb : (f : String) → (ds : List D) → WB f ds
  | "len", [.lst xs] => .lenL xs
  | "len", [.str x] => .lenS x
  | "range", [.int n] => .range1 n
  | "range", [.int a, .int b] => .range2 a b
  | "range", [.int a, .int b, .int c] => .range3 a b c
  | "min", [.int a, .int b] => .min a b
  | "max", [.int a, .int b] => .max a b
  | "list", [.lst xs] => .listL xs
  | "list", [.rng a b c] => .listR a b c
  | f, ds => .no f ds
noncomputable def callW {f : String} {ds : List D} (v : WB f ds) : Option D :=
  WB.casesOn (motive := fun _ _ _ => Option D) v
    (fun xs => if xs.length ≤ 10000 then some (.int xs.length) else Option.none)
    (fun x => if x.length ≤ 10000 then some (.int x.length) else Option.none)
    (fun n => some (.rng 0 n 1))
    (fun a b => some (.rng a b 1))
    (fun a b c => if c ≠ 0 ∧ c.natAbs < 1000 then some (.rng a b c) else Option.none)
    (fun a b => some (.int (if b < a then b else a)))
    (fun a b => some (.int (if b > a then b else a)))
    (fun xs => if xs.length ≤ 10000 then some (.lst xs) else Option.none)
    (fun a b c => if okRange a b c = true then some (.lst (rangeDs a b c)) else Option.none)
    (fun _ _ => Option.none)
/-- the built-ins that are served -/
noncomputable def callB (f : String) (ds : List D) : Option D := callW (wb f ds)
/-- what the name stands for among the built-ins -/
noncomputable def builtinVal (f : String) : Value := if f = "range" ∨ f = "list" then .type f else .builtin f

section
variable {prog : Program} {w : World} {A : Around} {Err : Value → Shared → Prop} {s : Shared} {own : List Addr}

theorem rds_of_items {own : List Addr} {h : Heap} {a c : Int} : ∀ (n : Nat) {acc : Array Value}, ItemsOf (fun i v => ∃ t, v = Value.int (a + i * c) t) acc n → RDs own h acc.toList ((List.range n).map fun i : Nat => D.int (a + (i : Int) * c)) := by
  intro n acc hacc
  have key : ∀ (k : Nat) (l : List Value), l.length + k = n → (∀ j v, l[j]? = some v → ∃ t, v = Value.int (a + ((k + j : Nat) : Int) * c) t) → RDs own h l (((List.range n).drop k).map fun i : Nat => D.int (a + (i : Int) * c)) := by
    intro k l
    induction l generalizing k with
    | nil =>
      intro hk _
      have : (List.range n).drop k = [] := by rw [List.drop_eq_nil_iff]; simp at hk ⊢; omega
      rw [this]; exact .nil
    | cons v l ih =>
      intro hk hv
      have hlt : k < (List.range n).length := by simp at hk ⊢; omega
      rw [List.drop_eq_getElem_cons hlt, List.map_cons]
      obtain ⟨t, e⟩ := hv 0 v rfl
      refine .cons ?_ (ih (k + 1) (by simp at hk; omega) fun j v' hj => ?_)
      · rw [e]; simp; exact .int _ _
      · obtain ⟨t', e'⟩ := hv (j + 1) v' (by simpa using hj)
        exact ⟨t', by rw [e']; congr 3; push_cast; omega⟩
  have := key 0 acc.toList (by simp [hacc.1]) fun j v hj => by
    obtain ⟨t, e⟩ := hacc.2 j v (by simpa using hj)
    exact ⟨t, by rw [e]; simp⟩
  simpa using this

theorem callB_sound {f : String} {ds : List D} {d : D} {vs : List Value} {Q : Value → Shared → Prop} (rm : Rm A 0) (live : ∀ a ∈ own, ∃ o, s.heap.get? a = some o)
    (e : callB f ds = some d) (rs : RDs own s.heap vs ds) (h : ∀ v' s', Kp s s' → RD own s'.heap v' d → Q v' s') : wpAny (model prog w) A (call (builtinVal f) vs) Q Err s := by
  have hh := rm.hh
  unfold callB at e
  generalize wb f ds = vv at e
  cases vv <;> dsimp only [callW] at e
  · split at e
    · cases e
      cases rs with
      | cons r rs =>
        cases rs
        cases r with
        | lst hl ho r =>
          have l1 := r.length
          simp only [Array.length_toList] at l1
          refine Calls.call_len_list hl.isList (by omega) ?_
          rw [l1]
          exact h _ _ .tk (.int _ _)
    · cases e
  · split at e
    · cases e
      cases rs with
      | cons r rs =>
        cases rs; cases r
        exact P.len_str (by omega) (h _ _ .tk (.int _ _))
    · cases e
  · cases e
    cases rs with
    | cons r rs =>
      cases rs; cases r
      exact call_range_1 (h _ _ .push (.rng (Heap.get?_push_size _ rfl)))
  · cases e
    cases rs with
    | cons r rs =>
      cases rs with
      | cons r' rs =>
        cases rs; cases r; cases r'
        exact call_range_2 (h _ _ .push (.rng (Heap.get?_push_size _ rfl)))
  · split at e
    · rename_i hc
      cases e
      cases rs with
      | cons r rs =>
        cases rs with
        | cons r' rs =>
          cases rs with
          | cons r'' rs =>
            cases rs; cases r; cases r'; cases r''
            exact call_range_3 hc.1 (h _ _ .push (.rng (Heap.get?_push_size _ rfl))) (hp := Or.inl (PyProof.noPylong_small (by omega)))
    · cases e
  · cases e
    cases rs with
    | cons r rs =>
      cases rs with
      | cons r' rs =>
        cases rs; cases r; cases r'
        refine min_two_ints hh fun h' tk hk => ?_
        split
        · rename_i hc; exact h _ _ (.mk' hk) (by rw [if_pos hc]; exact .int _ _)
        · rename_i hc; exact h _ _ (.mk' hk) (by rw [if_neg hc]; exact .int _ _)
  · cases e
    cases rs with
    | cons r rs =>
      cases rs with
      | cons r' rs =>
        cases rs; cases r; cases r'
        refine max_two_ints hh fun h' tk hk => ?_
        split
        · rename_i hc; exact h _ _ (.mk' hk) (by rw [if_pos hc]; exact .int _ _)
        · rename_i hc; exact h _ _ (.mk' hk) (by rw [if_neg hc]; exact .int _ _)
  · split at e
    · cases e
      cases rs with
      | cons r rs =>
        cases rs
        cases r with
        | lst hl ho r =>
          have l1 := r.length
          simp only [Array.length_toList] at l1
          obtain ⟨n, hl⟩ := hl
          exact call_list_seq _ (.inl rfl) hl rfl rfl (fun h' c' hk hD => h _ _ ⟨hk, rfl, .refl _⟩ (.lst ⟨_, hD⟩ (fresh_notin live) (r.keeps hk))) (hsz := by rw [sizeLine_eq]; omega)
    · cases e
  · split at e
    · rename_i hc
      cases e
      cases rs with
      | cons r rs =>
        cases rs
        cases r with
        | rng hr =>
          simp only [okRange, Bool.and_eq_true, decide_eq_true_eq] at hc
          refine call_list_range hh hr hc.1.1 (Int.toNat_of_nonneg hc.1.2).symm (by omega) fun h' tk acc' c' hk hD hacc => h _ _ (.mk' hk) (.lst ⟨_, hD⟩ (fresh_notin live) ?_)
          exact rds_of_items _ hacc
    · cases e
  · cases e
end
end Mine
namespace Mine

noncomputable def iterD : D → Option (List D)
  | .lst ds => if ds.length ≤ 10000 then some ds else Option.none
  | .rng a b c => if okRange a b c = true then some (rangeDs a b c) else Option.none
  | _ => Option.none

/-- the iterator I stands ahead of item i of ds -/
inductive IterAt (own : List Addr) (I : Addr) (ds : List D) (i : Nat) (h : Heap) : Prop
  | lst {ax : Addr} {vs : Array Value} : h.IsListIter I ax i → h.PlainList ax vs → ax ∉ own → RDs own h vs.toList ds → IterAt own I ds i h
  | rng {a c : Int} {n : Nat} : IsRangeIter h I (a + (i : Int) * c) ((n : Int) - (i : Int)) c → ds = (List.range n).map (fun j : Nat => D.int (a + (j : Int) * c)) → IterAt own I ds i h

theorem isListIter_kps {X : List Addr} {own : List Addr} {h h' : Heap} (k : KpS X h h') (hX : ∀ b ∈ X, b ∈ own ∧ ∃ vs, h.IsList b vs) {I ax : Addr} {i : Nat} (x : h.IsListIter I ax i) : h'.IsListIter I ax i := by
  obtain ⟨o, ho, hc, hd⟩ := x
  refine ⟨o, k I o ho (fun hm => ?_) (fun es n e => by rw [hd] at e; cases e) (fun v e => by rw [hd] at e; cases e), hc, hd⟩
  obtain ⟨_, vs', o', ho', hc', _⟩ := hX I hm
  rw [ho] at ho'; cases ho'; rw [hc] at hc'; simp at hc'
theorem isRangeIter_kps {X : List Addr} {own : List Addr} {h h' : Heap} (k : KpS X h h') (hX : ∀ b ∈ X, b ∈ own ∧ ∃ vs, h.IsList b vs) {I : Addr} {x y z : Int} (q : IsRangeIter h I x y z) : IsRangeIter h' I x y z := by
  refine k I _ q (fun hm => ?_) (fun es n e => by cases e) (fun v e => by cases e)
  obtain ⟨_, vs', o', ho', hc', _⟩ := hX I hm
  rw [show h.get? I = _ from q] at ho'; cases ho'; simp at hc'
theorem IterAt.kps {X own : List Addr} {h h' : Heap} (k : KpS X h h') (hX : ∀ b ∈ X, b ∈ own ∧ ∃ vs, h.IsList b vs) {I : Addr} {ds : List D} {i : Nat} (x : IterAt own I ds i h) : IterAt own I ds i h' := by
  cases x with
  | lst a b c d => exact .lst (isListIter_kps k hX a) (isList_kpr (k.toR hX) b c) c (d.kps k hX)
  | rng a e => exact .rng (isRangeIter_kps k hX a) e
theorem IterAt.keeps {own : List Addr} {h h' : Heap} (k : ∀ b o, h.get? b = some o → h'.get? b = some o) {I : Addr} {ds : List D} {i : Nat} (x : IterAt own I ds i h) : IterAt own I ds i h' := x.kps (kpS_of k []) (by simp)

section
variable {prog : Program} {w : World} {A : Around} {Err : Value → Shared → Prop} {s : Shared} {own : List Addr}

theorem iter_sound {v : Value} {d : D} {ds : List D} {Q : Value → Shared → Prop} (r : RD own s.heap v d) (e : iterD d = some ds)
    (h : ∀ s', Kp s s' → s.heap.get? s.heap.objs.size = none → IterAt own s.heap.objs.size ds 0 s'.heap → Q (.ref s.heap.objs.size) s') : wpAny (model prog w) A (pyIter v) Q Err s := by
  have hnone : s.heap.get? s.heap.objs.size = none := by
    cases q : s.heap.get? s.heap.objs.size with
    | none => rfl
    | some o => exact absurd (Heap.lt_size q) (Nat.lt_irrefl _)
  unfold iterD at e
  split at e
  · split at e
    · cases e
      cases r with
      | lst hl ho r =>
        refine wpAny_pyIter_list hl.isList (h _ .push' hnone (.lst ⟨_, Heap.get?_push_size _ rfl, rfl, rfl⟩ (hl.at fun o e => Heap.get?_push_of_some _ e) ho (r.keeps fun b o e => Heap.get?_push_of_some _ e)))
    · cases e
  · split at e
    · rename_i hc
      cases e
      cases r with
      | rng hr =>
        simp only [okRange, Bool.and_eq_true, decide_eq_true_eq] at hc
        refine wpAny_pyIter_range hr hc.1.1 (h _ .push' hnone (.rng (n := rangeLen _ _ _) ?_ rfl))
        have e1 : ∀ x y : Int, x + ((0 : Nat) : Int) * y = x := fun x y => by simp
        have e2 : ∀ n : Nat, (n : Int) - ((0 : Nat) : Int) = n := fun n => by simp
        rw [e1, e2, rangeLen, Int.toNat_of_nonneg hc.1.2]
        exact Heap.get?_push_size _ rfl
    · cases e
  · cases e

theorem next_item {I : Addr} {ds : List D} {i : Nat} {d : D} {Q : Option Value → Shared → Prop} (x : IterAt own I ds i s.heap) (e : ds[i]? = some d)
    (h : ∀ v h' tk, RD own h' v d → IterAt own I ds (i + 1) h' → Heap.SameBut I s.heap h' → Q (some v) { s with heap := h', toks := tk }) : wpAny (model prog w) A (pyNext (.ref I)) Q Err s := by
  cases x with
  | lst a b c r =>
    obtain ⟨v, hv, rv⟩ := r.get e
    rename_i ax vs
    have hne : ax ≠ I := by
      rintro rfl
      obtain ⟨n, hb⟩ := b
      obtain ⟨o, ho, hc, _⟩ := a
      rw [hb] at ho; cases ho; simp at hc
    refine wpAny_pyNext_list_item a b.isList (x := v) (by simpa using hv) fun h' hit' hs' => ?_
    have kr : KpR own s.heap h' := kpR_of_sameBut hs' fun o ho => by
      obtain ⟨o', ho', hc, _⟩ := a
      rw [ho] at ho'; cases ho'; simp [hc]
    exact h v h' s.toks (rv.kpr kr) (.lst hit' (isList_kpr kr b c) c (r.kpr kr)) hs'
  | rng a e' =>
    rename_i a0 c n
    have hi : i < n := by
      rw [e'] at e
      have := (List.getElem?_eq_some_iff.mp e).1
      simpa using this
    have ed : d = .int (a0 + (i : Int) * c) := by
      rw [e'] at e
      simp [hi] at e
      exact e.symm
    refine wpAny_pyNext_range_item a (by omega) fun h' hit' hs' => ?_
    refine h _ h' _ (by rw [ed]; exact .int _ _) (.rng (a := a0) (c := c) (n := n) ?_ e') hs'
    have e1 : a0 + ((i + 1 : Nat) : Int) * c = a0 + (i : Int) * c + c := by push_cast; rw [Int.add_mul, Int.one_mul, Int.add_assoc]
    have e2 : (n : Int) - ((i + 1 : Nat) : Int) = (n : Int) - (i : Int) - 1 := by push_cast; omega
    rw [e1, e2]; exact hit'

theorem next_done {I : Addr} {ds : List D} {i : Nat} {Q : Option Value → Shared → Prop} (rm : A.handled = none) (x : IterAt own I ds i s.heap) (e : i = ds.length)
    (h : ∀ h', Heap.ExtBut I s.heap h' → Q none { s with heap := h' }) : wpAny (model prog w) A (pyNext (.ref I)) Q Err s := by
  cases x with
  | lst a b c r =>
    have l := r.length
    simp only [Array.length_toList] at l
    exact wpAny_pyNext_list_end rm a b.isList (by simp; omega) h
  | rng a e' =>
    refine wpAny_pyNext_range_end rm a ?_ h
    rw [e, e']
    simp
end

noncomputable def notSlice : Expr → Bool
  | .Slice _ _ _ _ => false
  | _ => true
theorem subscripted_plain {e : Expr} (h : notSlice e = true) (o i : Value) : subscripted e false o i = operate [o, i] (getItem o i) := by
  cases e <;> first | rfl | simp [notSlice] at h

theorem seqIndex_nn {k : Int} {n : Nat} (h0 : 0 ≤ k) (h1 : k < n) : seqIndex? k n = some k.toNat := by
  have h2 : ¬ k < 0 := by omega
  unfold seqIndex?
  simp only [if_neg h2]
  rw [if_pos]
  simp only [Bool.and_eq_true, decide_eq_true_eq]
  exact ⟨h0, h1⟩
noncomputable def idxD (v i : D) : Option D :=
  match v, i with
  | .lst ds, .int k => if 0 ≤ k ∧ k < 1000000 then ds[k.toNat]? else Option.none
  | .str x, .int k => if 0 ≤ k ∧ k < 1000000 then (match x.cps[k.toNat]? with | some c => some (.str ⟨#[c]⟩) | Option.none => Option.none) else Option.none
  | _, _ => Option.none
noncomputable def sliceD (v : D) (lo hi : Option Int) : Option D :=
  match v with
  | .lst ds => if ds.length ≤ 10000 then some (.lst ((ds.drop (lo.elim 0 (clipAt ds.length))).take (hi.elim ds.length (clipAt ds.length) - lo.elim 0 (clipAt ds.length)))) else Option.none
  | .str x => if x.length ≤ 10000 ∧ (Builtin.Str.strSliceIndices lo hi 1 x.length).length ≤ 10000 then
      (if (Builtin.Str.strSliceIndices lo hi 1 x.length).length == x.length then some (.str x) else some (.str ⟨((Builtin.Str.strSliceIndices lo hi 1 x.length).filterMap (x.cps[·]?)).toArray⟩)) else Option.none
  | _ => Option.none

section
variable {prog : Program} {w : World} {A : Around} {Err : Value → Shared → Prop} {s : Shared} {own : List Addr}
theorem idx_sound {value slice : Expr} {a b d : D} {v u : Value} {Q : Value → Shared → Prop} (hs : notSlice slice = true)
    (e : idxD a b = some d) (ra : RD own s.heap v a) (rb : RD own s.heap u b) (h : ∀ v' s', Kp s s' → RD own s'.heap v' d → Q v' s') : wpAny (model prog w) A (subscriptTail value slice v u) Q Err s := by
  unfold idxD at e
  split at e
  · split at e
    · rename_i hk
      cases rb
      cases ra with
      | lst hl ho r =>
        obtain ⟨v', hv, rv⟩ := r.get e
        exact tail_any hl.isList.typeIs slot_list_getitem.lookup (wpAny_getItem_list hl.isList hk.1 (by omega) (by simpa using hv) (h _ _ (.refl _) rv)) (subscripted_plain hs _ _)
    · cases e
  · split at e
    · rename_i hk
      cases rb; cases ra
      split at e
      · rename_i c hc
        cases e
        refine tail_any (typeIs_str s _ _) F.slot_str_getitem.lookup (P.getItem_str ?_ ?_ (h _ _ .tk (.str _ _))) (subscripted_plain hs _ _)
        · simp only [Bool.or_eq_false_iff, decide_eq_false_iff_not]; omega
        · have hlt : (_ : Int).toNat < _ := (Array.getElem?_eq_some_iff.mp hc).1
          rw [seqIndex_nn hk.1 (by show _ < ((Str.length _ : Nat) : Int); unfold Str.length; omega)]
          exact hc
      · cases e
    · cases e
  · cases e
end
end Mine
namespace Mine

noncomputable def idxOfD (ds : List D) (k : Int) : Option D :=
  match ints? ds with
  | some ns => if ns.length ≤ 10000 ∧ k ∈ ns then some (.int (ns.idxOf k : Nat)) else Option.none
  | Option.none => Option.none
noncomputable def joinD (sep : Str) (ds : List D) : Option D :=
  match strs? ds with
  | some ys => if (ys.map (·.length)).sum + ys.length ≤ 10000 ∧ sep.length ≤ 16 then some (.str (Txt.join sep ys)) else Option.none
  | Option.none => Option.none

section
variable {prog : Program} {w : World} {A : Around} {Err : Value → Shared → Prop} {s : Shared} {own : List Addr}

theorem slice_sound {value : Expr} {lower upper : Option Expr} {p : Pos} {a d : D} {v vl vu : Value} {sl : Addr} {lo hi : Option Int} {Q : Value → Shared → Prop} (live : ∀ a ∈ own, ∃ o, s.heap.get? a = some o)
    (e : sliceD a lo hi = some d) (ra : RD own s.heap v a) (hs : s.heap.IsSliceOf sl vl vu .none) (pl : IsPart vl lo) (pu : IsPart vu hi)
    (h : ∀ v' s', Kp s s' → RD own s'.heap v' d → Q v' s') : wpAny (model prog w) A (subscriptTail value (.Slice lower upper none p) v (.ref sl)) Q Err s := by
  unfold sliceD at e
  split at e
  · split at e
    · rename_i hlen
      cases e
      cases ra with
      | lst hl ho r =>
        have l1 := r.length
        simp only [Array.length_toList] at l1
        refine tail_any hl.isList.typeIs slot_list_getitem.lookup (wpAny_getItem_list_slice hl.isList hs pl pu .none (by simp) (h _ _ .push' (.lst ⟨0, Heap.get?_push_size _ rfl⟩ (fresh_notin live) ?_)) (hsz := by rw [sizeLine_eq]; omega)) rfl
        rw [slicePick_plain, l1, List.toList_toArray]
        exact ((r.drop _).take _).keeps fun b o e => Heap.get?_push_of_some _ e
    · cases e
  · split at e
    · rename_i hlen
      cases ra with
      | str x t =>
        have part : ∀ {v : Value} {k : Option Int}, IsPart v k → ∃ l : Option (Int × Tok), v = partValue l ∧ l.map (·.1) = k := by
          intro v k hp
          cases hp with
          | none => exact ⟨none, rfl, rfl⟩
          | int i t => exact ⟨some (i, t), rfl, rfl⟩
        obtain ⟨l, rfl, hl⟩ := part pl
        obtain ⟨u, rfl, hu⟩ := part pu
        refine tail_any (typeIs_str s _ _) F.slot_str_getitem.lookup (wpAny_getItem_str_slice (l := l) (u := u) (st := none) hs rfl ?_) rfl
        unfold sliceMade slicePicked
        rw [hl, hu]
        simp only [Option.map_none, Option.getD_none, beq_self_eq_true, Bool.true_and]
        split at e
        · rename_i hq
          cases e
          rw [if_pos hq]
          exact h _ _ (.refl _) (.str _ _)
        · rename_i hq
          cases e
          rw [if_neg hq]
          refine ⟨?_, h _ _ .tk (.str _ _)⟩
          rw [sizeLine_eq]
          show (List.toArray _).size ≤ _
          rw [List.size_toArray]
          exact Nat.le_trans (List.length_filterMap_le _ _) (by omega)
    · cases e
  · cases e

theorem index_sound {ds : List D} {k : Int} {t : Tok} {d : D} {a : Addr} {vs : Array Value} {Q : Value → Shared → Prop}
    (e : idxOfD ds k = some d) (hl : s.heap.PlainList a vs) (r : RDs own s.heap vs.toList ds) (h : ∀ v' s', Kp s s' → RD own s'.heap v' d → Q v' s') : wpAny (model prog w) A (call (.builtin "list.index") [.ref a, .int k t]) Q Err s := by
  unfold idxOfD at e
  split at e
  · rename_i ns hns
    split at e
    · rename_i hk
      cases e
      have hi := r.ints hns
      obtain ⟨n, ho⟩ := hl
      have hlen := hi.length
      simp only [Array.length_toList] at hlen
      have hj : ns.idxOf k < ns.length := List.idxOf_lt_length_iff.mpr hk.2
      refine call_meets PySem.F.slot_list_index ⟨_, ho, rfl⟩ PySem.F.entry_list_index (PySem.F.args_list_index_2 _ _)
        (SeqAt.list_indexAt a vs n none #[] (.int k t) (isInt k) (ns.idxOf k) (by omega) (by omega) ?_ ?_) ⟨ho, fun y hy => (eq_isInt k t hi y (by simpa using hy)).at _ _, h _ _ .tk (.int _ _)⟩
      · have := isInt_at k hi (ns.idxOf k) (by simp; omega) hj
        simp only [Array.getElem_toList] at this
        rw [this]
        simp
      · intro j hjs hlt
        have := isInt_at k hi j (by simp; omega) (by omega)
        simp only [Array.getElem_toList] at this
        rw [this]
        exact ne_of_lt_idxOf hlt _
    · cases e
  · cases e
theorem join_sound {ds : List D} {sep : Str} {t : Tok} {d : D} {a : Addr} {vs : Array Value} {Q : Value → Shared → Prop}
    (e : joinD sep ds = some d) (hl : s.heap.PlainList a vs) (r : RDs own s.heap vs.toList ds) (h : ∀ v' s', Kp s s' → RD own s'.heap v' d → Q v' s') : wpAny (model prog w) A (call (.builtin "str.join") [.str sep t, .ref a]) Q Err s := by
  unfold joinD at e
  split at e
  · rename_i ys hys
    split at e
    · rename_i hk
      cases e
      exact join_listW hl.isList (r.strs hys) hk.2 (by omega) fun t' k => h _ _ .tk (.str _ _)
    · cases e
  · cases e
end
end Mine
namespace Mine

theorem cellsFrom_old : ∀ (names : List (Str × NameKind)) (n : Nat) (acc : List (Str × Addr)) (y : Str), (∀ p ∈ names, p.1 = y → p.2 ≠ .cell) → (cellsFrom n names acc).lookup y = acc.lookup y
  | [], _, _, _, _ => rfl
  | (nm, k) :: r, n, acc, y, h => by
    unfold cellsFrom
    have hr : ∀ p ∈ r, p.1 = y → p.2 ≠ .cell := fun p hp => h p (List.mem_cons_of_mem _ hp)
    split
    · rename_i hk
      have hk' : k = .cell := by simpa using hk
      have hne : nm ≠ y := fun e => h (nm, k) List.mem_cons_self e hk'
      rw [cellsFrom_old r (n + 1) _ y hr, List.lookup_cons]
      have : (y == nm) = false := by simpa using (Ne.symm hne)
      rw [this]
    · exact cellsFrom_old r n acc y hr

theorem cellsFrom_new : ∀ (names : List (Str × NameKind)) (h : Heap) (acc : List (Str × Addr)) (x : Str), (∃ p ∈ names, p = (x, NameKind.cell)) →
    ∃ c, (cellsFrom h.objs.size names acc).lookup x = some c ∧ h.objs.size ≤ c ∧ (pushCells h names).IsCell c none
  | [], _, _, _, ⟨_, hp, _⟩ => nomatch hp
  | (nm, k) :: r, h, acc, x, hx => by
    unfold cellsFrom pushCells
    by_cases hk : (k == NameKind.cell) = true
    · rw [if_pos hk, if_pos hk]
      have hsz : (h.push { cls := .type "cell", data := .cell none }).objs.size = h.objs.size + 1 := Heap.size_push ..
      by_cases hr : ∃ p ∈ r, p = (x, NameKind.cell)
      · obtain ⟨c, h1, h2, h3⟩ := cellsFrom_new r (h.push { cls := .type "cell", data := .cell none }) ((nm, h.objs.size) :: acc) x hr
        rw [hsz] at h1 h2
        exact ⟨c, h1, by omega, h3⟩
      · have hn : nm = x := by
          obtain ⟨p, hp, e⟩ := hx
          rcases List.mem_cons.mp hp with q | q
          · rw [e] at q; exact (Prod.mk.inj q).1.symm
          · exact absurd ⟨p, q, e⟩ hr
        subst hn
        refine ⟨h.objs.size, ?_, Nat.le_refl _, ?_⟩
        · rw [cellsFrom_old r _ _ nm (fun p hp e hc => hr ⟨p, hp, by rw [← e, ← hc]⟩), List.lookup_cons]
          simp
        · exact ⟨_, pushCells_keeps r _ _ _ (Heap.get?_push_size _ rfl), rfl⟩
    · rw [if_neg hk, if_neg hk]
      refine cellsFrom_new r h acc x ?_
      obtain ⟨p, hp, e⟩ := hx
      rcases List.mem_cons.mp hp with q | q
      · rw [e] at q; cases q; simp at hk
      · exact ⟨p, q, e⟩

theorem pushCells_size : ∀ (names : List (Str × NameKind)) (h : Heap), h.objs.size ≤ (pushCells h names).objs.size
  | [], _ => Nat.le_refl _
  | (_, k) :: r, h => by
    unfold pushCells
    split
    · have := pushCells_size r (h.push { cls := .type "cell", data := .cell none })
      rw [Heap.size_push] at this
      omega
    · exact pushCells_size r h

noncomputable def compEnv (scope : Scope) (cl : List (Str × Addr)) (C : Addr) (E : Env) : Env :=
  { scope := relabel scope E, locals := C, globals := E.globals, cells := cellsFrom (C + 1) scope.names cl, qual := E.qual, func := none, code := E.code, frame := E.frame, builtins := E.builtins }

section
variable {prog : Program} {w : World} {A : Around} {Err : Value → Shared → Prop} {s : Shared} {own : List Addr} {E : Env}

theorem newEnv_comp {scope : Scope} {cl : List (Str × Addr)} {Q : Env → Shared → Prop}
    (h : Q { compEnv scope cl s.heap.objs.size E with scope := scope } { s with heap := pushCells (s.heap.push { cls := .type "dict", data := .dict #[] }) scope.names }) :
    wpAny (model prog w) A (newFunctionEnv scope E.globals cl [] E.qual none .none (some E)) Q Err s := by
  unfold newFunctionEnv
  refine wpAny_bind (wpAny_alloc ?_)
  refine wpAny_bind ?_
  refine wpAny_layCells _ (fun name kind cells => ?_) scope.names cl _ _ ?_
  · rfl
  · refine wpAny_bind (wpAny_pure ?_)
    refine wpAny_pure ?_
    simp only [Option.isSome_some, if_true]
    have hsz : (s.heap.push { cls := .type "dict", data := .dict #[] }).objs.size = s.heap.objs.size + 1 := Heap.size_push ..
    rw [hsz]
    exact h

/-- what a comprehension makes of its items -/
noncomputable def compL (f : D → Option (Option D)) : List D → Option (List D)
  | [] => some []
  | d :: ds => match f d, compL f ds with
    | some (some y), some ys => some (y :: ys)
    | some Option.none, some ys => some ys
    | _, _ => Option.none
theorem compL_snoc {f : D → Option (Option D)} : ∀ {l : List D} {outs : List D} {d : D}, compL f l = some outs → compL f (l ++ [d]) = match f d with
    | some (some y) => some (outs ++ [y])
    | some Option.none => some outs
    | Option.none => Option.none
  | [], outs, d, e => by
    cases e
    show (match f d, compL f [] with | some (some y), some ys => some (y :: ys) | some Option.none, some ys => some ys | _, _ => Option.none) = _
    rw [show compL f [] = some [] from rfl]
    cases f d with
    | none => rfl
    | some o => cases o <;> rfl
  | x :: l, outs, d, e => by
    have e' : (match f x, compL f l with | some (some y), some ys => some (y :: ys) | some Option.none, some ys => some ys | _, _ => Option.none) = some outs := e
    show (match f x, compL f (l ++ [d]) with | some (some y), some ys => some (y :: ys) | some Option.none, some ys => some ys | _, _ => Option.none) = _
    cases q : compL f l with
    | none => rw [q] at e'; split at e' <;> first | contradiction | simp_all
    | some ys =>
      rw [q] at e'
      rw [compL_snoc q]
      cases hx : f x with
      | none => rw [hx] at e'; cases e'
      | some o =>
        rw [hx] at e'
        cases o with
        | none => cases e'; cases f d with
          | none => rfl
          | some o => cases o <;> rfl
        | some y => cases e'; cases f d with
          | none => rfl
          | some o => cases o <;> rfl
theorem compL_pre {f : D → Option (Option D)} : ∀ {l l' : List D} {outs : List D}, compL f (l ++ l') = some outs → ∃ o, compL f l = some o
  | [], _, _, _ => ⟨[], rfl⟩
  | x :: l, l', outs, e => by
    have e' : (match f x, compL f (l ++ l') with | some (some y), some ys => some (y :: ys) | some Option.none, some ys => some ys | _, _ => Option.none) = some outs := e
    cases q : compL f (l ++ l') with
    | none => rw [q] at e'; split at e' <;> first | contradiction | simp_all
    | some ys =>
      obtain ⟨o, ho⟩ := compL_pre q
      rw [q] at e'
      show ∃ o, (match f x, compL f l with | some (some y), some ys => some (y :: ys) | some Option.none, some ys => some ys | _, _ => Option.none) = some o
      rw [ho]
      cases hx : f x with
      | none => rw [hx] at e'; cases e'
      | some o' => cases o' <;> exact ⟨_, rfl⟩

theorem kpS_dict {a : Addr} {h h' : Heap} (hs : Heap.SameBut a h h') (hd : ∀ o, h.get? a = some o → (∃ es n, o.data = .dict es n) ∨ ∃ v, o.data = .cell v) : KpS [] h h' := fun b o e _ h1 h2 =>
  hs.extBut b o (fun q => by
    subst q
    rcases hd o e with ⟨es, n, x⟩ | ⟨v, x⟩
    · exact h1 es n x
    · exact h2 v x) e
theorem ns_data {h : Heap} {a : Addr} {m : Str → Option Value} (x : h.Ns a m) : ∀ o, h.get? a = some o → (∃ es n, o.data = .dict es n) ∨ ∃ v, o.data = .cell v := fun o e => by
  obtain ⟨o', es, n, ho, hd, _⟩ := x
  rw [e] at ho; cases ho; exact .inl ⟨es, n, hd⟩
theorem cell_data {h : Heap} {a : Addr} {m : Option Value} (x : h.IsCell a m) : ∀ o, h.get? a = some o → (∃ es n, o.data = .dict es n) ∨ ∃ v, o.data = .cell v := fun o e => by
  obtain ⟨o', ho, hd⟩ := x
  rw [e] at ho; cases ho; exact .inr ⟨_, hd⟩
end
end Mine
namespace Mine

noncomputable def compρ (ρ : Str → Option D) (scope : Scope) (x : Str) (d : D) : Str → Option D := fun y => if y = x then some d else if scope.names.lookup y = some .free then ρ y else Option.none

theorem lookup_relabel {E : Env} : ∀ (names : List (Str × NameKind)) (x : Str),
    (names.map fun (n, k) => if (k == NameKind.free && E.scope.kind == .function && E.kindOf n == some .cell) then (n, NameKind.cell) else (n, k)).lookup x =
      (match names.lookup x with | some .free => (if E.scope.kind == .function && E.kindOf x == some .cell then some .cell else some .free) | o => o)
  | [], x => rfl
  | (n, k) :: r, x => by
    have ih := @lookup_relabel E r x
    show List.lookup x ((if (k == NameKind.free && E.scope.kind == .function && E.kindOf n == some .cell) = true then (n, NameKind.cell) else (n, k)) :: _) = _
    by_cases hx : x = n
    · subst hx
      by_cases hc : (k == NameKind.free && E.scope.kind == .function && E.kindOf x == some .cell) = true
      · rw [if_pos hc]
        simp only [List.lookup_cons, beq_self_eq_true]
        simp only [Bool.and_eq_true] at hc
        have hk : k = .free := by simpa using hc.1.1
        subst hk
        simp [hc.1.2, hc.2]
      · rw [if_neg hc]
        simp only [List.lookup_cons, beq_self_eq_true]
        cases k <;> simp_all
    · have hb : (x == n) = false := by simpa using hx
      split <;> simp only [List.lookup_cons, hb] <;> exact ih

theorem kind_relabel {scope : Scope} {E : Env} {C : Addr} {cl : List (Str × Addr)} (x : Str) : (compEnv scope cl C E).kindOf x =
    (match scope.names.lookup x with | some .free => (if E.scope.kind == .function && E.kindOf x == some .cell then some .cell else some .free) | o => o) := lookup_relabel scope.names x

section
variable {prog : Program} {w : World} {A : Around} {Err : Value → Shared → Prop} {own : List Addr} {E : Env} {h₁ : Heap} {ρ : Str → Option D}

/-- the variables of a comprehension's own block, behind the store of its target -/
theorem ev_comp {scope : Scope} {cl : List (Str × Addr)} {x : Str} {C : Addr} {s s' : Shared} {own' : List Addr} {d : D} {v : Value} (hkind : scope.kind = .function)
    (hcl : ∀ y d, y ≠ x → scope.names.lookup y = some .free → ρ y = some d → (∀ p ∈ scope.names, p.1 = y → p.2 ≠ .cell) ∧ (y == ("__classdict__" : Str)) = false ∧ (E.kindOf y = some .cell ∨ E.kindOf y = some .free) ∧ cl.lookup y = E.cells.lookup y)
    (I : EV h₁ own E ρ s) (k : Kp s s') (ho : ∀ b, b ∈ own' → (∃ o, s.heap.get? b = some o) → b ∈ own) (live : ∀ a ∈ own', ∃ o, s'.heap.get? a = some o)
    (hv : VarIs (compEnv scope cl C E) s'.heap x v) (r : RD own' s'.heap v d) : EV h₁ own' (compEnv scope cl C E) (compρ ρ scope x d) s' where
  base := fun b o e => k.heap b o (I.base b o e)
  kind := hkind
  globals := I.globals
  builtins := I.builtins
  live := live
  var := fun y d' e => by
    unfold compρ at e
    split at e
    · rename_i hy
      cases e; subst hy
      exact ⟨v, hv, r⟩
    · rename_i hy
      split at e
      · rename_i hf
        obtain ⟨hn, hcd, hk, hc⟩ := hcl y d' hy hf e
        obtain ⟨v', hv', r'⟩ := I.var y d' e
        refine ⟨v', ?_, (r'.sub ho).keeps k.heap⟩
        rcases hv' with ⟨hl, _⟩ | ⟨_, c, hcc, hcv⟩
        · rw [hl] at hk; simp at hk
        · refine .inr ⟨?_, c, ?_, hcv.keeps k.heap⟩
          · rw [kind_relabel, hf]
            simp only
            split
            · exact .inl rfl
            · exact .inr ⟨rfl, hcd⟩
          · show (cellsFrom (C + 1) scope.names cl).lookup y = some c
            rw [cellsFrom_old _ _ _ _ hn, hc, hcc]
      · cases e

theorem IterAt.sub {own own' : List Addr} {h : Heap} (k : ∀ b, b ∈ own' → (∃ o, h.get? b = some o) → b ∈ own) {I : Addr} {ds : List D} {i : Nat} (x : IterAt own I ds i h) : IterAt own' I ds i h := by
  cases x with
  | lst a b c r =>
    refine .lst a b (fun hm => c (k _ hm ?_)) (r.sub k)
    obtain ⟨n, e⟩ := b
    exact ⟨_, e⟩
  | rng a e => exact .rng a e
theorem get_none_of_ge {h : Heap} {a : Nat} (ha : h.objs.size ≤ a) : h.get? a = none := by
  cases e : h.get? a with
  | none => rfl
  | some o => exact absurd (Heap.lt_size e) (Nat.not_lt.mpr ha)
theorem ne_of_get {h : Heap} {a b : Nat} {o : Obj} (e : h.get? a = some o) (hb : h.get? b = none) : a ≠ b := fun q => by rw [q, hb] at e; cases e
theorem ltA {a b : Nat} (h : a < b) : a < b := h
theorem leA {a b : Nat} (h : a ≤ b) : a ≤ b := h

theorem comp_core {elt iter : Expr} {x : Str} {px : Pos} {ifs : List Expr} {scope : Scope} {cl : List (Str × Addr)} {pos : Pos} {s s₂ : Shared} {It : Addr} {ds outs : List D} {f : D → Option (Option D)}
    {RR : Value → Addr → Result → Shared → Prop}
    (rm : A.handled = none) (hkind : scope.kind = .function) (hx : scope.names.lookup x = some .local ∨ scope.names.lookup x = some .cell)
    (hcl : ∀ y d, y ≠ x → scope.names.lookup y = some .free → ρ y = some d → (∀ p ∈ scope.names, p.1 = y → p.2 ≠ .cell) ∧ (y == ("__classdict__" : Str)) = false ∧ (E.kindOf y = some .cell ∨ E.kindOf y = some .free) ∧ cl.lookup y = E.cells.lookup y)
    (I : EV h₁ own E ρ s) (k₂ : Kp s s₂) (hI : s.heap.get? It = none) (hIlt : It < s₂.heap.objs.size) (it : IterAt own It ds 0 s₂.heap) (hds : compL f ds = some outs) (hlen : ds.length ≤ 10000)
    (htests : ∀ own' C s₃ d r (Q : Bool → Shared → Prop) Err, EV h₁ own' (compEnv scope cl C E) (compρ ρ scope x d) s₃ → f d = some r → (∀ s₄, Kp s₃ s₄ → Q r.isSome s₄) →
      wpAny (model prog w) A (forIn ifs true fun c r => if r = true then do let ok ← isTrue c (compEnv scope cl C E) (eval c (compEnv scope cl C E)); pure (ForInStep.yield ok) else pure (ForInStep.yield r)) Q Err s₃)
    (helt : ∀ own' C s₃ d y (Q : Value → Shared → Prop) Err, EV h₁ own' (compEnv scope cl C E) (compρ ρ scope x d) s₃ → f d = some (some y) → (∀ v s₄, Kp s₃ s₄ → RD own' s₄.heap v y → Q v s₄) →
      wpAny (model prog w) A (eval elt (compEnv scope cl C E)) Q Err s₃)
    (hRR : ∀ D C s', Kp s s' → RD own s'.heap (.ref D) (.lst outs) → (∃ m, s'.heap.Ns C m) → s.heap.get? C = none → D ≠ C → RR (.ref D) C (.ok .next) s') :
    wpAny (model prog w) A (newList []) (fun acc s₃ => wpAny (model prog w) A (newFunctionEnv scope E.globals cl [] E.qual none .none (some E)) (fun cenv s₄ =>
      codeAny (model prog w) A (.compStart (.ListComp elt [⟨.Name x px, iter, ifs, 0⟩] scope pos) 0 (.ref It) acc { cenv with scope := relabel scope E }) (RR acc cenv.locals) s₄) Err s₃) Err s₂ := by
  refine wpAny_newObj_type (newEnv_comp ?_)
  generalize hD : s₂.heap.objs.size = Da
  generalize hH : s₂.heap.push { cls := .type "list", data := .seq ([] : List Value).toArray } = H
  have hHs : H.objs.size = Da + 1 := by rw [← hH, Heap.size_push, hD]
  have hIlt' : @LT.lt Nat _ It Da := by rw [← hD]; exact hIlt
  clear hIlt
  have n2D : s₂.heap.get? Da = none := get_none_of_ge (Nat.le_of_eq hD)
  generalize hC : H.objs.size = C at *
  show codeAny _ A (.compStart _ 0 (.ref It) (.ref Da) (compEnv scope cl C E)) (RR (.ref Da) C) _
  generalize hH4 : pushCells (H.push { cls := .type "dict", data := .dict #[] }) scope.names = H4
  have hk4 : ∀ b o, H.get? b = some o → H4.get? b = some o := fun b o e => by rw [← hH4]; exact pushCells_keeps _ _ _ _ (Heap.get?_push_of_some _ e)
  have hk24 : ∀ b o, s₂.heap.get? b = some o → H4.get? b = some o := fun b o e => hk4 b o (by rw [← hH]; exact Heap.get?_push_of_some _ e)
  have hD4 : H4.PlainList Da #[] := ⟨0, hk4 _ _ (by rw [← hH, ← hD]; exact Heap.get?_push_size _ rfl)⟩
  have hC4 : H4.Ns C fun _ => none := by
    refine Heap.Ns.keeps (h := H.push { cls := .type "dict", data := .dict #[] }) ?_ fun b o e => by rw [← hH4]; exact pushCells_keeps _ _ _ _ e
    rw [← hC]; exact Heap.Ns.new ..
  have none2 : ∀ a : Nat, Da ≤ a → s.heap.get? a = none := fun a ha => by
    cases e : s.heap.get? a with
    | none => rfl
    | some o =>
      have := ltA (Heap.lt_size (k₂.heap a o e))
      rw [hD] at this
      omega
  have hDs : s.heap.get? Da = none := none2 _ (Nat.le_refl _)
  have hCs : s.heap.get? C = none := none2 _ (by omega)
  have hDo : Da ∉ own := fun hm => by obtain ⟨o, e⟩ := I.live _ hm; rw [hDs] at e; cases e
  have hsub : ∀ b, b ∈ Da :: own → (∃ o, s.heap.get? b = some o) → b ∈ own := fun b hb ⟨o, e⟩ => by
    rcases List.mem_cons.mp hb with rfl | hb
    · rw [hDs] at e; cases e
    · exact hb
  have hsub2 : ∀ b, b ∈ Da :: own → (∃ o, s₂.heap.get? b = some o) → b ∈ own := fun b hb ⟨o, e⟩ => by
    rcases List.mem_cons.mp hb with rfl | hb
    · rw [n2D] at e; cases e
    · exact hb
  -- the target's own cell, where it has one
  have hxc : ∃ cx : Option Addr, (∀ c, cx = some c → (compEnv scope cl C E).cells.lookup x = some c ∧ s.heap.get? c = none ∧ c ≠ Da ∧ c ≠ It ∧ C < c ∧ H4.IsCell c none) ∧ (cx = none → scope.names.lookup x = some .local) ∧ (cx.isSome = true → scope.names.lookup x = some .cell) := by
    rcases hx with hl | hc
    · exact ⟨none, fun c e => (nomatch e), fun _ => hl, fun e => (nomatch e)⟩
    · obtain ⟨c, h1, h2, h3⟩ := cellsFrom_new scope.names (H.push { cls := .type "dict", data := .dict #[] }) cl x ⟨_, mem_of_lookup hc, rfl⟩
      rw [Heap.size_push, hC] at h1 h2
      rw [hH4] at h3
      have h2' := leA h2
      exact ⟨some c, fun c' e => by cases e; exact ⟨h1, none2 _ (by omega), Nat.ne_of_gt (by omega), Nat.ne_of_gt (by omega), Nat.lt_of_lt_of_le (Nat.lt_succ_self _) h2', h3⟩, fun e => (nomatch e), fun _ => hc⟩
  obtain ⟨cx, hcx, hcn, hcs⟩ := hxc
  have it4 : IterAt (Da :: own) It ds 0 H4 := by
    have : IterAt (Da :: own) It ds 0 s₂.heap := it.sub hsub2
    exact this.keeps hk24
  have hItD : It ≠ Da := Nat.ne_of_lt hIlt'
  have hItC : It ≠ C := Nat.ne_of_lt (by omega)
  have hDC : Da ≠ C := Nat.ne_of_lt (by omega)
  let inv : Nat → Shared → Prop := fun n s' => ∃ i ys os m, n = ds.length + 1 - i ∧ i ≤ ds.length ∧ Kp s s' ∧ IterAt (Da :: own) It ds i s'.heap ∧ s'.heap.PlainList Da ys ∧ RDs (Da :: own) s'.heap ys.toList os ∧ compL f (ds.take i) = some os ∧
    s'.heap.Ns C m ∧ (∀ c, cx = some c → ∃ v0, s'.heap.IsCell c v0) ∧ ys.size ≤ i
  have loop : ∀ s₃ : Shared, s₃ = { s₂ with heap := H4 } →
      codeAny (model prog w) A (.compLoop (.ListComp elt [⟨.Name x px, iter, ifs, 0⟩] scope pos) 0 (.ref It) (.ref Da) (compEnv scope cl C E)) (RR (.ref Da) C) s₃ := by
    rintro s₃ rfl
    refine codeAny_compLoop_tests inv ?_ (ds.length + 1) ⟨0, #[], [], _, rfl, Nat.zero_le _, k₂.trans ⟨hk24, rfl, .refl _⟩, it4, hD4, .nil, rfl, hC4, fun c e => ⟨none, (hcx c e).2.2.2.2.2⟩, Nat.le_refl _⟩
    rintro n s' ⟨i, ys, os, m, rfl, hi, k, hit, hpl, hrd, hco, hn, hcell, hys⟩
    rcases Nat.lt_or_eq_of_le hi with hlt | heq
    · obtain ⟨d, hd⟩ : ∃ d, ds[i]? = some d := ⟨ds[i], by simp [hlt]⟩
      refine next_item hit hd fun v h' tk rv hit' hs' => ?_
      -- the state behind the iterator's step
      have hItdata : ∀ o, s'.heap.get? It = some o → o.cls ≠ .type "list" ∧ o.cls ≠ .type "tuple" ∧ o.cls ≠ .type "range" := fun o e => by
        cases hit with
        | lst a _ _ _ => obtain ⟨o', ho', hc', _⟩ := a; rw [e] at ho'; cases ho'; simp [hc']
        | rng a _ => rw [show s'.heap.get? It = _ from a] at e; cases e; simp
      have kr : KpR (Da :: own) s'.heap h' := kpR_of_sameBut hs' hItdata
      have k' : ∀ b o, s.heap.get? b = some o → h'.get? b = some o := fun b o e => hs'.extBut b o (fun q => by subst q; rw [hI] at e; cases e) (k.heap b o e)
      have hpl' : h'.PlainList Da ys := hpl.extBut hs'.extBut (Ne.symm hItD)
      have hrd' := hrd.kpr kr
      have hn' : h'.Ns C m := hn.sameBut hs' (Ne.symm hItC)
      have hcell' : ∀ c, cx = some c → ∃ v0, h'.IsCell c v0 := fun c e => let ⟨v0, h0⟩ := hcell c e; ⟨v0, h0.sameBut hs' (hcx c e).2.2.2.1⟩
      -- the store
      have store : ∀ (Q : Unit → Shared → Prop) Er, (∀ s₃, Kp s s₃ → IterAt (Da :: own) It ds (i + 1) s₃.heap → s₃.heap.PlainList Da ys → RDs (Da :: own) s₃.heap ys.toList os → (∃ m, s₃.heap.Ns C m) → (∀ c, cx = some c → ∃ v0, s₃.heap.IsCell c v0) →
          VarIs (compEnv scope cl C E) s₃.heap x v → RD (Da :: own) s₃.heap v d → Q () s₃) → wpAny (model prog w) A (assign (.Name x px) (compEnv scope cl C E) v) Q Er { s' with heap := h', toks := tk } := by
        intro Q Er hq
        refine wpAny_assign_Name ?_
        cases hcxe : cx with
        | none =>
          have hl := hcn hcxe
          have hkx : (compEnv scope cl C E).kindOf x = some .local := by rw [kind_relabel, hl]
          refine wpAny_storeName_local hkx hn' (fun h₂ hn₂ hs₂ => ?_) (by simp [compEnv, relabel, hkind])
          have ks := kpS_dict hs₂ (ns_data hn')
          have hno : ∀ b ∈ ([] : List Addr), b ∈ Da :: own ∧ ∃ vs, h'.IsList b vs := fun b hb => nomatch hb
          refine hq _ ⟨fun b o e => hs₂.extBut b o (fun q => ?_) (k' b o e), k.os, k.gens⟩ (hit'.kps ks hno) (hpl'.extBut hs₂.extBut hDC) (hrd'.kps ks hno) ⟨_, hn₂⟩ (fun c e => by rw [hcxe] at e; cases e) (.inl ⟨hkx, _, hn₂, by simp⟩) (rv.kps ks hno)
          rw [show (compEnv scope cl C E).locals = C from rfl] at q
          subst q; rw [hCs] at e; cases e
        | some c =>
          have hl := hcs (by rw [hcxe]; rfl)
          obtain ⟨h1, h2, h3, h4, h5, _⟩ := hcx c hcxe
          obtain ⟨v0, hc0⟩ := hcell' c hcxe
          have hkx : (compEnv scope cl C E).kindOf x = some .cell := by rw [kind_relabel, hl]
          refine wpAny_storeName_cell hkind hkx h1 hc0 fun h₂ hc₂ hs₂ => ?_
          have ks := kpS_dict hs₂ (cell_data hc0)
          have hno : ∀ b ∈ ([] : List Addr), b ∈ Da :: own ∧ ∃ vs, h'.IsList b vs := fun b hb => nomatch hb
          refine hq _ ⟨fun b o e => hs₂.extBut b o (fun q => by subst q; rw [h2] at e; cases e) (k' b o e), k.os, k.gens⟩ (hit'.kps ks hno) (hpl'.extBut hs₂.extBut (Ne.symm h3)) (hrd'.kps ks hno) ⟨_, hn'.sameBut hs₂ (Nat.ne_of_lt h5)⟩
            (fun c' e => by rw [hcxe] at e; cases e; exact ⟨_, hc₂⟩) (.inr ⟨.inl hkx, c, h1, hc₂⟩) (rv.kps ks hno)
      refine store _ _ fun s₃ k3 it3 pl3 rd3 ns3 c3 var3 r3 => ?_
      obtain ⟨n3, pl3'⟩ := id pl3
      have live3 : ∀ a ∈ Da :: own, ∃ o, s₃.heap.get? a = some o := fun a ha => by
        rcases List.mem_cons.mp ha with rfl | ha
        · exact ⟨_, pl3'⟩
        · obtain ⟨o, e⟩ := I.live a ha; exact ⟨o, k3.heap a o e⟩
      have ev3 := ev_comp hkind hcl I k3 hsub live3 var3 r3
      -- what is due
      have htk : ds.take (i + 1) = ds.take i ++ [d] := by rw [List.take_add_one, hd]; rfl
      have hall : ∃ o, compL f (ds.take (i + 1)) = some o := compL_pre (l' := ds.drop (i + 1)) (by rw [List.take_append_drop]; exact hds)
      obtain ⟨o1, ho1⟩ := hall
      rw [htk, compL_snoc hco] at ho1
      obtain ⟨r, hr⟩ : ∃ r, f d = some r := by
        cases q : f d with
        | none => rw [q] at ho1; cases ho1
        | some r => exact ⟨r, rfl⟩
      rw [hr] at ho1
      refine htests (Da :: own) C s₃ d r _ _ ev3 hr fun s₄ k34 => ?_
      have it4' := it3.keeps k34.heap
      have pl4 := pl3.at fun o e => k34.heap _ o e
      have rd4 := rd3.keeps k34.heap
      obtain ⟨m3, hm3⟩ := ns3
      have ns4 := hm3.keeps k34.heap
      have c4 : ∀ c, cx = some c → ∃ v0, s₄.heap.IsCell c v0 := fun c e => let ⟨v0, h0⟩ := c3 c e; ⟨v0, h0.keeps k34.heap⟩
      cases r with
      | none =>
        simp only [Option.isSome_none, Bool.false_eq_true, if_false]
        cases ho1
        exact ⟨ds.length + 1 - (i + 1), by omega, i + 1, ys, os, m3, rfl, hlt, k3.trans k34, it4', pl4, rd4, by rw [htk, compL_snoc hco, hr], ns4, c4, by omega⟩
      | some y =>
        simp only [Option.isSome_some, if_true]
        cases ho1
        refine helt (Da :: own) C s₄ d y _ _ (ev3.kp k34) hr fun v5 s₅ k45 r5 => ?_
        have pl5 := pl4.at fun o e => k45.heap _ o e
        have rd5 := rd4.keeps k45.heap
        refine wpAny_list_append_plain pl5 (fun h₆ pl6 hs₆ => ?_) (hsz := by rw [sizeLine_eq]; omega)
        have ksD : KpS [Da] s₅.heap h₆ := fun b o e hb _ _ => hs₆.extBut b o (by simpa using hb) e
        have hXD : ∀ b ∈ [Da], b ∈ Da :: own ∧ ∃ vs, s₅.heap.IsList b vs := fun b hb => by
          have : b = Da := by simpa using hb
          subst this; exact ⟨List.mem_cons_self, _, pl5.isList⟩
        refine ⟨ds.length + 1 - (i + 1), by omega, i + 1, ys.push v5, os ++ [y], m3, rfl, hlt, ?_, (it4'.keeps k45.heap).kps ksD hXD, pl6, ?_, by rw [htk, compL_snoc hco, hr], (ns4.keeps k45.heap).sameBut hs₆ (Ne.symm hDC), fun c e => ?_, by simp; omega⟩
        · have kk := (k3.trans k34).trans k45
          exact ⟨fun b o e => hs₆.extBut b o (fun q => by subst q; rw [hDs] at e; cases e) (kk.heap b o e), kk.os, kk.gens⟩
        · rw [Array.toList_push]
          exact (rd5.kps ksD hXD).append (.cons (r5.kps ksD hXD) .nil)
        · obtain ⟨v0, h0⟩ := c4 c e
          exact ⟨v0, (h0.keeps k45.heap).sameBut hs₆ (hcx c e).2.2.1⟩
    · refine next_done rm hit heq fun h' he' => ?_
      have hos : os = outs := by
        rw [heq, List.take_length, hds] at hco; exact (Option.some.inj hco).symm
      subst hos
      have hItdata : ∀ o, s'.heap.get? It = some o → o.cls ≠ .type "list" ∧ o.cls ≠ .type "tuple" ∧ o.cls ≠ .type "range" := fun o e => by
        cases hit with
        | lst a _ _ _ => obtain ⟨o', ho', hc', _⟩ := a; rw [e] at ho'; cases ho'; simp [hc']
        | rng a _ => rw [show s'.heap.get? It = _ from a] at e; cases e; simp
      have kr : KpR (Da :: own) s'.heap h' := fun b o e hc _ _ _ => he' b o (fun q => by subst q; have := hItdata o e; rcases hc with c | c | c <;> simp [c] at this) e
      refine hRR Da C _ ⟨fun b o e => he' b o (fun q => by subst q; rw [hI] at e; cases e) (k.heap b o e), k.os, k.gens⟩ (.lst (hpl.extBut he' (Ne.symm hItD)) hDo ((hrd.kpr kr).sub fun b hb _ => List.mem_cons_of_mem _ hb)) ⟨_, hn.extBut he' (Ne.symm hItC)⟩ hCs hDC
  refine codeAny_compStart_list (loop _ rfl) ?_
  cases it4 with
  | lst a _ _ _ => exact wpAny_pyIter_listiter a (loop _ rfl)
  | rng a _ => exact wpAny_pyIter_rangeiter a (loop _ rfl)
end
end Mine
namespace Mine

noncomputable def constD : Const → Option D
  | .none => some .none
  | .bool b => some (.bool b)
  | .int i => some (.int i)
  | .str x => if x.length ≤ 10000 then some (.str x) else Option.none
  | _ => Option.none
noncomputable def notStar : Expr → Bool
  | .Starred .. => false
  | _ => true
noncomputable def evL (f : Expr → Option D) : List Expr → Option (List D)
  | [] => some []
  | e :: es => if notStar e = true then (match f e, evL f es with | some d, some ds => some (d :: ds) | _, _ => Option.none) else Option.none
noncomputable def bnames : List String := ["len", "range", "min", "max", "list"]
noncomputable def bname (f : Str) : Option String := bnames.find? fun b => Str.ofString b == f

/-- one test -/
noncomputable def tst1 (f : Expr → Option D) : Expr → Option Bool
  | .Compare l [op] [r] _ => if behindInMarks op r = true then Option.none else
      (match f l, f r with | some a, some b => (match cmpD op a b with | some (.bool t) => some t | _ => Option.none) | _, _ => Option.none)
  | .Name x p => match f (.Name x p) with | some (.bool t) => some t | _ => Option.none
  | _ => Option.none
noncomputable def andT (f : Expr → Option D) : List Expr → Option Bool
  | [] => some true
  | e :: es => match tst1 f e with | some true => andT f es | some false => some false | Option.none => Option.none
noncomputable def tst (f : Expr → Option D) : Expr → Option Bool
  | .BoolOp .And vs _ => andT f vs
  | e => tst1 f e
/-- the tests of a comprehension, one behind the other -/
noncomputable def ifsT (f : Expr → Option D) : List Expr → Option Bool
  | [] => some true
  | e :: es => match tst f e with | some true => ifsT f es | some false => some false | Option.none => Option.none
noncomputable def partD (f : Expr → Option D) : Option Expr → Option (Option Int)
  | Option.none => some Option.none
  | some e => match f e with | some (.int i) => some (some i) | some .none => some Option.none | _ => Option.none

noncomputable def relNames (ns : List (Str × NameKind)) (scope : Scope) : List (Str × NameKind) := scope.names.map fun (n, k) => if (k == NameKind.free && ns.lookup n == some .cell) then (n, NameKind.cell) else (n, k)

noncomputable def compOk (ns : List (Str × NameKind)) (ρ : Str → Option D) (scope : Scope) (x : Str) : Bool :=
  scope.kind == .function && (scope.names.lookup x == some .local || scope.names.lookup x == some .cell) &&
  scope.names.all fun p => (p.2 != .local || scope.names.lookup p.1 == some .local) &&
    (p.2 != .free || ((ns.lookup p.1 == some .cell || ns.lookup p.1 == some .free) && (ρ p.1).isSome && !(p.1 == ("__classdict__" : Str)) && scope.names.all fun q => q.1 != p.1 || q.2 != .cell))

noncomputable def and3 (a b c : Option D) : Option D :=
  match a with
  | some (.bool false) => some (.bool false)
  | some (.bool true) => (match b with
    | some (.bool false) => some (.bool false)
    | some (.bool true) => c
    | _ => Option.none)
  | _ => Option.none

/-- the forms of an expression that are read -/
inductive WE : Expr → Type
  | const (c : Const) (k : Nat) (p : Pos) : WE (.Constant c k p)
  | name (x : Str) (p : Pos) : WE (.Name x p)
  | bin (l : Expr) (op : Operator) (r : Expr) (p : Pos) : WE (.BinOp l op r p)
  | neg (x : Expr) (p : Pos) : WE (.UnaryOp .USub x p)
  | cmp (l : Expr) (op : CmpOp) (r : Expr) (p : Pos) : WE (.Compare l [op] [r] p)
  | and3 (a b c : Expr) (p : Pos) : WE (.BoolOp .And [a, b, c] p)
  | ite (t b o : Expr) (p : Pos) : WE (.IfExp t b o p)
  | slice (v : Expr) (lo hi : Option Expr) (q p : Pos) : WE (.Subscript v (.Slice lo hi Option.none q) p)
  | item (v i : Expr) (p : Pos) : WE (.Subscript v i p)
  | list (es : List Expr) (p : Pos) : WE (.List es p)
  | tuple (es : List Expr) (k : Nat) (p : Pos) : WE (.Tuple es k p)
  | call (f : Str) (p : Pos) (a : Expr) (as : List Expr) (pos : Pos) : WE (.Call (.Name f p) (a :: as) [] pos)
  | join (sep : Str) (k : Nat) (p : Pos) (m : Str) (apos : Pos) (a : Expr) (pos : Pos) : WE (.Call (.Attribute (.Constant (.str sep) k p) m apos) [a] [] pos)
  | index (x : Str) (p : Pos) (m : Str) (apos : Pos) (a : Expr) (pos : Pos) : WE (.Call (.Attribute (.Name x p) m apos) [a] [] pos)
  | comp (elt : Expr) (x : Str) (px : Pos) (iter : Expr) (ifs : List Expr) (scope : Scope) (pos : Pos) : WE (.ListComp elt [⟨.Name x px, iter, ifs, 0⟩] scope pos)
  | no (e : Expr) : WE e

noncomputable def we : (e : Expr) → WE e
  | .Constant c k p => .const c k p
  | .Name x p => .name x p
  | .BinOp l op r p => .bin l op r p
  | .UnaryOp .USub x p => .neg x p
  | .Compare l [op] [r] p => .cmp l op r p
  | .BoolOp .And [a, b, c] p => .and3 a b c p
  | .IfExp t b o p => .ite t b o p
  | .Subscript v (.Slice lo hi Option.none q) p => .slice v lo hi q p
  | .Subscript v i p => .item v i p
  | .List es p => .list es p
  | .Tuple es k p => .tuple es k p
  | .Call (.Name f p) (a :: as) [] pos => .call f p a as pos
  | .Call (.Attribute (.Constant (.str sep) k p) m apos) [a] [] pos => .join sep k p m apos a pos
  | .Call (.Attribute (.Name x p) m apos) [a] [] pos => .index x p m apos a pos
  | .ListComp elt [⟨.Name x px, iter, ifs, 0⟩] scope pos => .comp elt x px iter ifs scope pos
  | e => .no e

/-- one step of the evaluator; f is the evaluator for what lies within -/
noncomputable def evW (fns : List Str) (Φ : Str → List D → Option D) (f : List (Str × NameKind) → (Str → Option D) → Expr → Option D) (ns : List (Str × NameKind)) (ρ : Str → Option D) {e : Expr} (v : WE e) : Option D :=
  WE.casesOn (motive := fun _ _ => Option D) v
    (fun c _ _ => constD c)
    (fun x _ => if (x == ("__debug__" : Str)) = true then Option.none else ρ x)
    (fun l op r _ => (match f ns ρ l, f ns ρ r with | some a, some b => binD op a b | _, _ => Option.none))
    (fun x _ => (match f ns ρ x with | some (.int i) => some (.int (-i)) | _ => Option.none))
    (fun l op r _ => if behindInMarks op r = true then Option.none else (match f ns ρ l, f ns ρ r with | some a, some b => cmpD op a b | _, _ => Option.none))
    (fun a b c _ => Mine.and3 (f ns ρ a) (f ns ρ b) (f ns ρ c))
    (fun t b o _ => (match tst (f ns ρ) t with | some true => f ns ρ b | some false => f ns ρ o | Option.none => Option.none))
    (fun v lo hi _ _ => (match f ns ρ v, partD (f ns ρ) lo, partD (f ns ρ) hi with | some a, some l, some h => sliceD a l h | _, _, _ => Option.none))
    (fun v i _ => if notSlice i = true then (match f ns ρ v, f ns ρ i with | some a, some b => idxD a b | _, _ => Option.none) else Option.none)
    (fun es _ => (match evL (f ns ρ) es with | some ds => if ds.length ≤ 10000 then some (.lst ds) else Option.none | _ => Option.none))
    (fun es _ _ => (match evL (f ns ρ) es with | some ds => if ds.length ≤ 10000 then some (.tup ds) else Option.none | _ => Option.none))
    (fun g _ a as _ =>
      if ns.lookup g = some .globalImplicit ∧ (g == ("__debug__" : Str)) = false then
        (match evL (f ns ρ) (a :: as) with
        | some ds => if fns.contains g = true then Φ g ds else (match bname g with | some b => callB b ds | Option.none => Option.none)
        | _ => Option.none)
      else Option.none)
    (fun sep _ _ m apos a pos => if m = Str.ofString "join" ∧ (apos.endLine == pos.line) = true ∧ notStar a = true then (match f ns ρ a with | some (.lst ds) => joinD sep ds | _ => Option.none) else Option.none)
    (fun x p m apos a pos => if m = Str.ofString "index" ∧ (apos.endLine == pos.line) = true ∧ notStar a = true then (match f ns ρ (.Name x p), f ns ρ a with | some (.lst ds), some (.int k) => idxOfD ds k | _, _ => Option.none) else Option.none)
    (fun elt x _ iter ifs scope _ =>
      if compOk ns ρ scope x = true then
        (match f ns ρ iter with
        | some d => (match iterD d with
          | some ds => if ds.length ≤ 10000 then (match compL (fun it => (match ifsT (f (relNames ns scope) (compρ ρ scope x it)) ifs with
              | some true => (match f (relNames ns scope) (compρ ρ scope x it) elt with | some y => some (some y) | Option.none => Option.none)
              | some false => some Option.none
              | Option.none => Option.none)) ds with
            | some ys => some (.lst ys)
            | Option.none => Option.none) else Option.none
          | Option.none => Option.none)
        | Option.none => Option.none)
      else Option.none)
    (fun _ => Option.none)

noncomputable def ev (fns : List Str) (Φ : Str → List D → Option D) : Nat → List (Str × NameKind) → (Str → Option D) → Expr → Option D
  | 0, _, _, _ => Option.none
  | n + 1, ns, ρ, e => evW fns Φ (ev fns Φ n) ns ρ (we e)
end Mine
namespace Mine

theorem starEach_plain {e : Expr} (h : notStar e = true) (rest : List Expr) (E : Env) : starEach (e :: rest) E = (false, eval e E) :: starEach rest E := by
  cases e <;> first | rfl | simp [notStar] at h

structure Cx (prog : Program) (w : World) (h₁ : Heap) (k : Nat) (fns : List Str) (Φ : Str → List D → Option D) : Prop where
  nolimit : h₁.NoLimit
  fn : ∀ f ∈ fns, ∃ mg a o fd, h₁.Ns mainGlobals mg ∧ mg f = some (.ref a) ∧ h₁.get? a = some o ∧ o.data = .func fd ∧
    ∀ (A : Around) (own : List Addr) (s : Shared) (vs : List Value) (ds : List D) (d : D) (Q : Value → Shared → Prop) (Err : Value → Shared → Prop), Rm A k → (∀ b o, h₁.get? b = some o → s.heap.get? b = some o) →
      (∀ a ∈ own, ∃ o, s.heap.get? a = some o) → Φ f ds = some d → RDs own s.heap vs ds → (∀ v s', Kp s s' → RD own s'.heap v d → Q v s') → wpAny (model prog w) A (call (.ref a) vs) Q Err s
  bi : ∀ b ∈ bnames, ∃ mg mb, h₁.Ns mainGlobals mg ∧ mg (Str.ofString b) = none ∧ h₁.Ns builtinsNs mb ∧ mb (Str.ofString b) = some (builtinVal b)

theorem Rm.zero {A : Around} {k : Nat} (r : Rm A k) : Rm A 0 := ⟨r.hh, by have := r.dp; omega, by have := r.un; omega⟩

section
variable {prog : Program} {w : World} {h₁ : Heap} {k : Nat} {fns : List Str} {Φ : Str → List D → Option D}

/-- what an expression's value is known to be -/
noncomputable def ES (prog : Program) (w : World) (h₁ : Heap) (A : Around) (own : List Addr) (E : Env) (ρ : Str → Option D) (e : Expr) (d : D) : Prop :=
  ∀ (s : Shared) (Q : Value → Shared → Prop) (Err : Value → Shared → Prop), EV h₁ own E ρ s → (∀ v s', Kp s s' → RD own s'.heap v d → Q v s') → wpAny (model prog w) A (eval e E) Q Err s
noncomputable def TS (prog : Program) (w : World) (h₁ : Heap) (A : Around) (own : List Addr) (E : Env) (ρ : Str → Option D) (e : Expr) (b : Bool) : Prop :=
  ∀ (s : Shared) (Q : Bool → Shared → Prop) (Err : Value → Shared → Prop), EV h₁ own E ρ s → (∀ s', Kp s s' → Q b s') → wpAny (model prog w) A (isTrue e E (eval e E)) Q Err s

variable {A : Around} {own : List Addr} {E : Env} {ρ : Str → Option D}

theorem tst1_sound {f : Expr → Option D} (rm : Rm A 0) (hf : ∀ e d, f e = some d → ES prog w h₁ A own E ρ e d) {e : Expr} {b : Bool} (h : tst1 f e = some b) : TS prog w h₁ A own E ρ e b := by
  intro s Q Err I hq
  unfold tst1 at h
  split at h
  · rename_i l op r p
    split at h
    · cases h
    · rename_i hm
      split at h
      · rename_i a b' ha hb
        split at h
        · rename_i t ht
          cases h
          refine wpAny_isTrue_Compare1 (hf l a ha s _ _ I fun v s₁ k1 r1 => hf r b' hb s₁ _ _ (I.kp k1) fun u s₂ k2 r2 => ?_) (by simpa using hm)
          refine cmp_sound rm ht (r1.keeps k2.heap) r2 fun v' r' => ?_
          cases r'
          exact wpAny_truthy_bool (hq _ (k1.trans k2))
        · cases h
      · cases h
  · rename_i x p
    split at h
    · rename_i t ht
      cases h
      refine wpAny_isTrue_value (hf _ _ ht s _ _ I fun v s₁ k1 r1 => ?_)
      cases r1
      exact wpAny_truthy_bool (hq _ k1)
    · cases h
  · cases h
theorem andT_sound {f : Expr → Option D} (rm : Rm A 0) (hf : ∀ e d, f e = some d → ES prog w h₁ A own E ρ e d) : ∀ {es : List Expr} {b : Bool}, andT f es = some b →
    ∀ (s : Shared) (Q : Bool → Shared → Prop) (Err : Value → Shared → Prop), EV h₁ own E ρ s → (∀ s', Kp s s' → Q b s') → wpAny (model prog w) A (allTrue .And es E) Q Err s
  | [], b, h, s, Q, Err, I, hq => by cases h; exact wpAny_allTrue_And_nil (hq s (.refl s))
  | e :: es, b, h, s, Q, Err, I, hq => by
    unfold andT at h
    split at h
    · rename_i ht
      refine wpAny_allTrue_And_cons (tst1_sound rm hf ht s _ _ I fun s₁ k1 => ?_)
      rw [if_pos rfl]
      exact andT_sound rm hf h s₁ _ _ (I.kp k1) fun s₂ k2 => hq s₂ (k1.trans k2)
    · rename_i ht
      cases h
      refine wpAny_allTrue_And_cons (tst1_sound rm hf ht s _ _ I fun s₁ k1 => ?_)
      rw [if_neg (by simp)]
      exact hq s₁ k1
    · cases h
theorem tst_sound {f : Expr → Option D} (rm : Rm A 0) (hf : ∀ e d, f e = some d → ES prog w h₁ A own E ρ e d) {e : Expr} {b : Bool} (h : tst f e = some b) : TS prog w h₁ A own E ρ e b := by
  unfold tst at h
  split at h
  · intro s Q Err I hq
    exact wpAny_isTrue_BoolOp (andT_sound rm hf h s Q Err I hq)
  · exact tst1_sound rm hf h
theorem ifsT_sound {f : Expr → Option D} (rm : Rm A 0) (hf : ∀ e d, f e = some d → ES prog w h₁ A own E ρ e d) : ∀ {es : List Expr} {b : Bool}, ifsT f es = some b →
    ∀ (s : Shared) (Q : Bool → Shared → Prop) (Err : Value → Shared → Prop), EV h₁ own E ρ s → (∀ s', Kp s s' → Q b s') →
      wpAny (model prog w) A (forIn es true fun c r => if r = true then do let ok ← isTrue c E (eval c E); pure (ForInStep.yield ok) else pure (ForInStep.yield r)) Q Err s := by
  have stay : ∀ (es : List Expr) (s : Shared) (Q : Bool → Shared → Prop) (Err : Value → Shared → Prop), Q false s →
      wpAny (model prog w) A (forIn es false fun c r => if r = true then do let ok ← isTrue c E (eval c E); pure (ForInStep.yield ok) else pure (ForInStep.yield r)) Q Err s := by
    intro es
    induction es with
    | nil => intro s Q Err hq; rw [List.forIn_nil]; exact wpAny_pure hq
    | cons e es ih => intro s Q Err hq; rw [List.forIn_cons]; exact wpAny_bind (wpAny_pure (ih s Q Err hq))
  intro es
  induction es with
  | nil => intro b h s Q Err I hq; cases h; rw [List.forIn_nil]; exact wpAny_pure (hq s (.refl s))
  | cons e es ih =>
    intro b h s Q Err I hq
    unfold ifsT at h
    rw [List.forIn_cons]
    split at h
    · rename_i ht
      refine wpAny_bind (wpAny_bind (tst_sound rm hf ht s _ _ I fun s₁ k1 => wpAny_pure ?_))
      exact ih h s₁ _ _ (I.kp k1) fun s₂ k2 => hq s₂ (k1.trans k2)
    · rename_i ht
      cases h
      refine wpAny_bind (wpAny_bind (tst_sound rm hf ht s _ _ I fun s₁ k1 => wpAny_pure ?_))
      exact stay es s₁ _ _ (hq s₁ k1)
    · cases h
theorem evL_sound {f : Expr → Option D} (hf : ∀ e d, f e = some d → ES prog w h₁ A own E ρ e d) : ∀ {es : List Expr} {ds : List D}, evL f es = some ds →
    ∀ (pos : Pos) (s : Shared) (Q : List Value → Shared → Prop) (Err : Value → Shared → Prop), EV h₁ own E ρ s → (∀ vs s', Kp s s' → RDs own s'.heap vs ds → Q vs s') → wpAny (model prog w) A (spliced (backTo pos (starEach es E))) Q Err s
  | [], ds, h, pos, s, Q, Err, I, hq => by cases h; exact wpAny_items_nil (hq [] s (.refl s) .nil)
  | e :: es, ds, h, pos, s, Q, Err, I, hq => by
    unfold evL at h
    split at h
    · rename_i hn
      split at h
      · rename_i d ds' hd hds
        cases h
        refine wpAny_items_cons (hf e d hd s _ _ I fun v s₁ k1 r1 => evL_sound hf hds pos s₁ _ _ (I.kp k1) fun vs s₂ k2 r2 => hq _ s₂ (k1.trans k2) (.cons (r1.keeps k2.heap) r2)) (starEach_plain hn es E)
      · cases h
    · cases h
theorem evL_plain {f : Expr → Option D} : ∀ {es : List Expr} {ds : List D}, evL f es = some ds → ∀ (pos : Pos) (E : Env), (backTo pos (starEach es E)).any (·.1) = false
  | [], _, _, _, _ => rfl
  | e :: es, ds, h, pos, E => by
    unfold evL at h
    split at h
    · rename_i hn
      split at h
      · rename_i d ds' hd hds
        rw [starEach_plain hn es E]
        show (false || (backTo pos (starEach es E)).any (·.1)) = false
        rw [evL_plain hds pos E]; rfl
      · cases h
    · cases h
theorem partD_sound {f : Expr → Option D} (hf : ∀ e d, f e = some d → ES prog w h₁ A own E ρ e d) {e : Option Expr} {i : Option Int} (h : partD f e = some i)
    (s : Shared) (Q : Value → Shared → Prop) (Err : Value → Shared → Prop) (I : EV h₁ own E ρ s) (hq : ∀ v s', Kp s s' → IsPart v i → Q v s') : wpAny (model prog w) A (evalPart e E) Q Err s := by
  cases e with
  | none => cases h; rw [evalPart_none]; exact wpAny_pure (hq _ s (.refl s) .none)
  | some e =>
    rw [evalPart_some]
    have h : (match f e with | some (.int i) => some (some i) | some .none => some Option.none | _ => Option.none) = some i := h
    split at h
    · rename_i j hj
      cases h
      exact hf _ _ hj s _ _ I fun v s₁ k1 r1 => by cases r1; exact hq _ s₁ k1 (.int _ _)
    · rename_i hj
      cases h
      exact hf _ _ hj s _ _ I fun v s₁ k1 r1 => by cases r1; exact hq _ s₁ k1 .none
    · cases h
end
end Mine
namespace Mine

theorem closure_gen {E : Env} (f : Str × NameKind → List (Str × Addr) → Sem (ForInStep (List (Str × Addr))))
    (hf : ∀ name kind cs, f (name, kind) cs = if kind == .free then (do let a ← cellOf E name; pure (.yield ((name, a) :: cs))) else pure (.yield cs)) :
    ∀ (names : List (Str × NameKind)) (acc : List (Str × Addr)), (∀ p ∈ names, p.2 = .free → ∃ c, E.cells.lookup p.1 = some c) →
      ∃ cl, forIn names acc f = pure cl ∧ (∀ y, (y, NameKind.free) ∈ names → cl.lookup y = E.cells.lookup y) ∧ (∀ y, (y, NameKind.free) ∉ names → cl.lookup y = acc.lookup y)
  | [], acc, _ => ⟨acc, by rw [List.forIn_nil], fun _ h => (nomatch h), fun _ _ => rfl⟩
  | (n, k) :: r, acc, h => by
    have hr : ∀ p ∈ r, p.2 = .free → ∃ c, E.cells.lookup p.1 = some c := fun p hp => h p (List.mem_cons_of_mem _ hp)
    rw [List.forIn_cons, hf]
    by_cases hk : k = .free
    · subst hk
      obtain ⟨c, hc⟩ := h (n, .free) List.mem_cons_self rfl
      obtain ⟨cl, e, h1, h2⟩ := closure_gen f hf r ((n, c) :: acc) hr
      refine ⟨cl, ?_, fun y hy => ?_, fun y hy => ?_⟩
      · simp only [beq_self_eq_true, if_true]
        unfold cellOf
        rw [hc]
        simp only [pure_bind]
        exact e
      · by_cases hy' : (y, NameKind.free) ∈ r
        · exact h1 y hy'
        · rw [h2 y hy']
          rcases List.mem_cons.mp hy with q | q
          · cases q; rw [List.lookup_cons]; simp [hc]
          · exact absurd q hy'
      · rw [h2 y fun q => hy (List.mem_cons_of_mem _ q), List.lookup_cons]
        have : (y == n) = false := by
          simp only [beq_eq_false_iff_ne, ne_eq]
          intro q; subst q; exact hy List.mem_cons_self
        rw [this]
    · obtain ⟨cl, e, h1, h2⟩ := closure_gen f hf r acc hr
      refine ⟨cl, ?_, fun y hy => ?_, fun y hy => h2 y fun q => hy (List.mem_cons_of_mem _ q)⟩
      · have hb : (k == NameKind.free) = false := by simpa using hk
        simp only [hb, Bool.false_eq_true, if_false, pure_bind]
        exact e
      · rcases List.mem_cons.mp hy with q | q
        · cases q; exact absurd rfl hk
        · exact h1 y q
theorem closure_of {E : Env} {scope : Scope} (h : ∀ p ∈ scope.names, p.2 = .free → ∃ c, E.cells.lookup p.1 = some c) :
    ∃ cl, closureFor scope E = pure cl ∧ ∀ y, (y, NameKind.free) ∈ scope.names → cl.lookup y = E.cells.lookup y := by
  obtain ⟨cl, e, h1, _⟩ := closure_gen (E := E) (fun x cs => match x with | (name, kind) => if kind == .free then (do let a ← cellOf E name; pure (.yield ((name, a) :: cs))) else pure (.yield cs)) (fun _ _ _ => rfl) scope.names [] h
  refine ⟨cl, ?_, h1⟩
  unfold closureFor
  refine Eq.trans (congrArg (· >>= fun cs => pure cs) (Eq.trans ?_ e)) (by rw [pure_bind])
  congr 1

theorem compOk_spec {ns : List (Str × NameKind)} {ρ : Str → Option D} {scope : Scope} {x : Str} (h : compOk ns ρ scope x = true) :
    scope.kind = .function ∧ (scope.names.lookup x = some .local ∨ scope.names.lookup x = some .cell) ∧ (∀ p ∈ scope.names, p.2 = .local → scope.names.lookup p.1 = some .local) ∧
    (∀ p ∈ scope.names, p.2 = .free → (ns.lookup p.1 = some .cell ∨ ns.lookup p.1 = some .free) ∧ (∃ d, ρ p.1 = some d) ∧ (p.1 == ("__classdict__" : Str)) = false ∧ ∀ q ∈ scope.names, q.1 = p.1 → q.2 ≠ .cell) := by
  simp only [compOk, Bool.and_eq_true, Bool.or_eq_true, beq_iff_eq, List.all_eq_true, bne_iff_ne, ne_eq, Bool.not_eq_true'] at h
  obtain ⟨⟨h1, h2⟩, h3⟩ := h
  refine ⟨h1, h2, fun p hp hl => ?_, fun p hp hf => ?_⟩
  · rcases (h3 p hp).1 with q | q
    · exact absurd hl q
    · exact q
  · rcases (h3 p hp).2 with q | q
    · exact absurd hf q
    · obtain ⟨⟨⟨a, b⟩, c⟩, d⟩ := q
      refine ⟨a, Option.isSome_iff_exists.mp b, c, fun q hq e hc => ?_⟩
      rcases d q hq with z | z
      · exact z e
      · exact z hc
theorem relNames_eq {E : Env} {scope : Scope} {cl : List (Str × Addr)} {C : Addr} (hk : E.scope.kind = .function) : (compEnv scope cl C E).scope.names = relNames E.scope.names scope := by
  show (scope.names.map _) = _
  unfold relNames
  refine List.map_congr_left fun p _ => ?_
  obtain ⟨n, k⟩ := p
  simp only [hk, beq_self_eq_true, Bool.and_true]
  rfl
theorem bname_spec {f : Str} {b : String} (h : bname f = some b) : b ∈ bnames ∧ Str.ofString b = f := by
  unfold bname at h
  exact ⟨List.mem_of_find?_eq_some h, by simpa using List.find?_some h⟩
end Mine
namespace Mine

theorem name_glob {prog : Program} {w : World} {A : Around} {Err : Value → Shared → Prop} {s : Shared} {E : Env} {f : Str} {p : Pos} {Q : Value → Shared → Prop} (hk : E.scope.kind = .function) (hx : E.kindOf f = some .globalImplicit) (hd : (f == ("__debug__" : Str)) = false)
    (h : wpAny (model prog w) A (loadGlobal E f) Q Err s) : wpAny (model prog w) A (eval (.Name f p) E) Q Err s := Calls.Name_function_global hk hx h hd

theorem folded_plain {fns : List Str} {Φ : Str → List D → Option D} {n : Nat} {ns : List (Str × NameKind)} {ρ : Str → Option D} {e : Expr} {d : D} {E : Env} (h : ev fns Φ n ns ρ e = some d) (x : Value) : foldedSetIterable e E x = pure x := by
  cases e <;> first | rfl | (cases n <;> cases h)
theorem IterAt.lt {own : List Addr} {I : Addr} {ds : List D} {i : Nat} {h : Heap} (x : IterAt own I ds i h) : I < h.objs.size := by
  cases x with
  | lst a _ _ _ => obtain ⟨o, ho, _⟩ := a; exact Heap.lt_size ho
  | rng a _ => exact Heap.lt_size a

set_option maxHeartbeats 1000000 in
theorem ev_sound {prog : Program} {w : World} {h₁ : Heap} {k : Nat} {fns : List Str} {Φ : Str → List D → Option D} (X : Cx prog w h₁ k fns Φ) : ∀ (n : Nat) {A : Around} {own : List Addr} {E : Env} {ρ : Str → Option D}, Rm A k →
    ∀ (e : Expr) (d : D), ev fns Φ n E.scope.names ρ e = some d → ES prog w h₁ A own E ρ e d
  | 0, _, _, _, _, _, e, d, h => by cases h
  | n + 1, A, own, E, ρ, rm, e, d, h => by
    have ih : ∀ e d, ev fns Φ n E.scope.names ρ e = some d → ES prog w h₁ A own E ρ e d := ev_sound X n rm
    intro s Q Err I hq
    replace h : evW fns Φ (ev fns Φ n) E.scope.names ρ (we e) = some d := h
    generalize we e = v at h
    cases v <;> dsimp only [evW] at h
    · -- constants
      rename_i c _ _
      unfold constD at h
      split at h
      · cases h; exact wpAny_Constant_none (hq _ _ (.refl _) .none)
      · cases h; exact wpAny_Constant_bool (hq _ _ (.refl _) (.bool _))
      · cases h; exact wpAny_Constant_int (hq _ _ .tk (.int _ _))
      · split at h
        · cases h; exact wpAny_Constant_str (hq _ _ .tk (.str _ _))
        · cases h
      · cases h
    · -- a name
      split at h
      · cases h
      · rename_i hx
        exact wpAny_Name (load_var I h fun v r => hq v s (.refl s) r) (by simpa using hx)
    · -- BinOp
      split at h
      · rename_i a b ha hb
        exact wpAny_BinOp (ih _ _ ha s _ _ I fun v s₁ k1 r1 => ih _ _ hb s₁ _ _ (I.kp k1) fun u s₂ k2 r2 =>
          binop_sound ((I.kp k1).kp k2).live h (r1.keeps k2.heap) r2 fun v' s₃ k3 r3 => hq v' s₃ ((k1.trans k2).trans k3) r3)
      · cases h
    · -- minus
      split at h
      · rename_i i hi
        cases h
        refine wpAny_UnaryOp (ih _ _ hi s _ _ I fun v s₁ k1 r1 => ?_)
        cases r1
        exact P.neg_int (hq _ _ (k1.trans .tk) (.int _ _))
      · cases h
    · -- Compare
      split at h
      · cases h
      · rename_i hm
        split at h
        · rename_i a b ha hb
          refine wpAny_Compare1 (ih _ _ ha s _ _ I fun v s₁ k1 r1 => ih _ _ hb s₁ _ _ (I.kp k1) fun u s₂ k2 r2 => ?_) (by simpa using hm)
          exact cmp_sound rm.zero h (r1.keeps k2.heap) r2 fun v' r' => hq v' s₂ (k1.trans k2) r'
        · cases h
    · -- and of three
      rename_i a b c p
      have e3 : eval (.BoolOp .And [a, b, c] p) E = (do
          let v ← eval a E
          standAt p
          let t ← holding [v] (truthy v)
          match BoolOp.And, t with
          | .And, false | .Or, true => pure v
          | _, _ => eval (.BoolOp .And [b, c] p) E) := rfl
      rw [e3]
      unfold and3 at h
      split at h
      · rename_i ha
        cases h
        refine wpAny_bind (ih _ _ ha s _ _ I fun v s₁ k1 r1 => ?_)
        cases r1
        exact wpAny_bind (wpAny_standAt (wpAny_bind (wpAny_holding (wpAny_truthy_bool (wpAny_pure (hq _ s₁ k1 (.bool _)))))))
      · rename_i ha
        refine wpAny_bind (ih _ _ ha s _ _ I fun v s₁ k1 r1 => ?_)
        cases r1
        refine wpAny_bind (wpAny_standAt (wpAny_bind (wpAny_holding (wpAny_truthy_bool ?_))))
        show wpAny _ A (eval (.BoolOp .And [b, c] p) E) Q Err s₁
        split at h
        · rename_i hb
          cases h
          refine wpAny_And2 (ih _ _ hb s₁ _ _ (I.kp k1) fun v s₂ k2 r2 => ?_)
          cases r2
          exact wpAny_truthy_bool (by rw [if_neg (by simp)]; exact hq _ s₂ (k1.trans k2) (.bool _))
        · rename_i hb
          refine wpAny_And2 (ih _ _ hb s₁ _ _ (I.kp k1) fun v s₂ k2 r2 => ?_)
          cases r2
          refine wpAny_truthy_bool ?_
          rw [if_pos rfl]
          exact ih _ _ h s₂ _ _ ((I.kp k1).kp k2) fun v s₃ k3 r3 => hq v s₃ ((k1.trans k2).trans k3) r3
        · cases h
      · cases h
    · -- IfExp
      split at h
      · rename_i ht
        refine wpAny_IfExp (tst_sound rm.zero ih ht s _ _ I fun s₁ k1 => ?_)
        rw [if_pos rfl]
        exact ih _ _ h s₁ _ _ (I.kp k1) fun v s₂ k2 r2 => hq v s₂ (k1.trans k2) r2
      · rename_i ht
        refine wpAny_IfExp (tst_sound rm.zero ih ht s _ _ I fun s₁ k1 => ?_)
        rw [if_neg (by simp)]
        exact ih _ _ h s₁ _ _ (I.kp k1) fun v s₂ k2 r2 => hq v s₂ (k1.trans k2) r2
      · cases h
    · -- a slice
      split at h
      · rename_i a l u ha hl hu
        refine Subscript_ (ih _ _ ha s _ _ I fun v s₁ k1 r1 => wpAny_Slice (partD_sound ih hl s₁ _ _ (I.kp k1) fun vl s₂ k2 pl => partD_sound ih hu s₂ _ _ ((I.kp k1).kp k2) fun vu s₃ k3 pu => ?_))
        rw [evalPart_none]
        refine wpAny_pure ?_
        have kk : Kp s₁ { s₃ with heap := s₃.heap.push { cls := .type "slice", data := .fields #[vl, vu, .none] } } := (k2.trans k3).trans .push'
        exact slice_sound ((I.kp k1).kp kk).live h (r1.keeps kk.heap) (Heap.IsSliceOf.new ..) pl pu fun v' s₄ k4 r4 => hq v' s₄ ((k1.trans kk).trans k4) r4
      · cases h
    · -- an item
      split at h
      · rename_i hn
        split at h
        · rename_i a b ha hb
          refine Subscript_ (ih _ _ ha s _ _ I fun v s₁ k1 r1 => ih _ _ hb s₁ _ _ (I.kp k1) fun u s₂ k2 r2 => ?_)
          exact idx_sound hn h (r1.keeps k2.heap) r2 fun v' s₃ k3 r3 => hq v' s₃ ((k1.trans k2).trans k3) r3
        · cases h
      · cases h
    · -- a list
      split at h
      · rename_i ds hds
        split at h
        · rename_i hlen
          cases h
          refine wpAny_List (evL_sound ih hds _ s _ _ I fun vs s₁ k1 r1 => ⟨by have := r1.length; rw [sizeLine_eq]; omega, ?_⟩)
          exact hq _ _ (k1.trans .push') (.lst ⟨0, Heap.get?_push_size _ rfl⟩ (fresh_notin (I.kp k1).live) (RDs.mono (r1.keeps fun b o e => Heap.get?_push_of_some _ e) (by simp) rfl))
        · cases h
      · cases h
    · -- a tuple
      split at h
      · rename_i ds hds
        split at h
        · rename_i hlen
          cases h
          refine wpAny_Tuple (evL_sound ih hds _ s _ _ I fun vs s₁ k1 r1 => ⟨by have := r1.length; rw [sizeLine_eq]; omega, ?_⟩)
          exact hq _ _ (k1.trans .push') (.tup ⟨_, Heap.get?_push_size _ rfl, rfl, 0, rfl⟩ (RDs.mono (r1.keeps fun b o e => Heap.get?_push_of_some _ e) (by simp) rfl))
        · cases h
      · cases h
    · -- a call of a def or a built-in
      rename_i f p a as pos
      split at h
      · rename_i hf
        split at h
        · rename_i ds hds
          refine wpAny_Call_Name_kw (name_glob I.kind hf.1 hf.2 ?_)
          have ha : notStar a = true := by
            unfold evL at hds
            split at hds
            · assumption
            · cases hds
          have hst := starEach_plain ha as E
          split at h
          · rename_i hin
            obtain ⟨mg, fa, o, fd, hg, hmg, ho, hd, spec⟩ := X.fn f (by simpa using hin)
            refine Calls.loadGlobal_global (mg := mg) (by rw [I.globals]; exact hg.keeps I.base) hmg ?_
            refine callWith_def (o := o) hd (evL_sound ih hds _ s _ _ I fun vs s₁ k1 r1 => ⟨(I.kp k1).base _ _ ho, ?_⟩) hst
            exact spec A own s₁ vs ds d _ _ rm (I.kp k1).base (I.kp k1).live h r1 fun v s₂ k2 r2 => hq v s₂ (k1.trans k2) r2
          · split at h
            · rename_i b hb
              obtain ⟨hb1, rfl⟩ := bname_spec hb
              obtain ⟨mg, mb, hg, hmg, hgb, hmb⟩ := X.bi b hb1
              refine Calls.loadGlobal_builtin (mg := mg) (mb := mb) (by rw [I.globals]; exact hg.keeps I.base) hmg (by rw [I.builtins]; exact hgb.keeps I.base) hmb ?_
              have go : wpAny (model prog w) A (spliced (backTo pos (starEach (a :: as) E))) (fun vs s₁ => wpAny (model prog w) A (call (builtinVal b) vs) Q Err s₁) Err s :=
                evL_sound ih hds _ s _ _ I fun vs s₁ k1 r1 => callB_sound rm.zero (I.kp k1).live h r1 fun v s₂ k2 r2 => hq v s₂ (k1.trans k2) r2
              have hpl := evL_plain hds pos E
              rw [hst] at go hpl ⊢
              unfold builtinVal at go ⊢
              split at go
              · rename_i hc
                rw [if_pos hc]
                exact PyProof.Rows.callWith_type hpl (Calls.evalArgs_plain go)
              · rename_i hc
                rw [if_neg hc]
                exact Calls.callWith_builtin hpl (Calls.evalArgs_plain go)
            · cases h
        · cases h
      · cases h
    · -- join
      rename_i sep c0 p0 m apos a pos
      split at h
      · rename_i hm
        obtain ⟨rfl, hl, hn⟩ := hm
        split at h
        · rename_i ds ha
          refine Call_method1 rfl (by rw [starEach_plain hn]; rfl) hl (wpAny_Constant_str ⟨"str", _, F.plainAttrs_str, F.slot_str_join, F.type_str_join, typeIs_str _ _ _, (fun _ e => nomatch e), ?_⟩)
          refine Calls.callWith_builtin rfl (Calls.evalArgs_plain (Calls.spliced_cons (ih _ _ ha _ _ _ (I.kp .tk) fun v s₁ k1 r1 => Calls.spliced_nil ?_)))
          cases r1 with
          | lst hpl ho r1 => exact join_sound h hpl r1 fun v' s₂ k2 r2 => hq v' s₂ ((Kp.tk.trans k1).trans k2) r2
        · cases h
      · cases h
    · -- index
      rename_i x p m apos a pos
      split at h
      · rename_i hm
        obtain ⟨rfl, hl, hn⟩ := hm
        split at h
        · rename_i ds kk hx ha
          refine Call_method1 rfl (by rw [starEach_plain hn]; rfl) hl (ih _ _ hx s _ _ I fun v s₁ k1 r1 => ?_)
          cases r1 with
          | lst hpl ho r1 =>
            obtain ⟨nn, hob⟩ := id hpl
            refine ⟨"list", _, F.plainAttrs_list, F.slot_list_index, F.type_list_index, hpl.isList.typeIs, (fun a e => by cases e; exact ⟨_, hob, rfl⟩), ?_⟩
            refine Calls.callWith_builtin rfl (Calls.evalArgs_plain (Calls.spliced_cons (ih _ _ ha _ _ _ (I.kp k1) fun v s₂ k2 r2 => Calls.spliced_nil ?_)))
            cases r2
            exact index_sound h (hpl.at fun o e => k2.heap _ o e) (r1.keeps k2.heap) fun v' s₃ k3 r3 => hq v' s₃ ((k1.trans k2).trans k3) r3
        · cases h
      · cases h
    · -- a comprehension
      rename_i elt x px iter ifs scope pos
      split at h
      · rename_i hok
        obtain ⟨c1, c2, c3, c4⟩ := compOk_spec hok
        split at h
        · rename_i di hdi
          split at h
          · rename_i ds hds
            split at h
            · rename_i hlen
              split at h
              · rename_i ys hys
                cases h
                have hcells : ∀ p ∈ scope.names, p.2 = .free → ∃ c, E.cells.lookup p.1 = some c := fun p hp hf => by
                  obtain ⟨hk, ⟨d, hd⟩, _, _⟩ := c4 p hp hf
                  obtain ⟨v, hv, _⟩ := I.var p.1 d hd
                  rcases hv with ⟨hl, _⟩ | ⟨_, c, hc, _⟩
                  · rw [show E.scope.names.lookup p.1 = some .local from hl] at hk; simp at hk
                  · exact ⟨c, hc⟩
                obtain ⟨cl, hcl, hcl2⟩ := closure_of hcells
                rw [eval_ListComp]
                refine wpAny_comprehension_free (use := none) rfl (fun y => ?_) hcl c1 c3 (ih _ _ hdi s _ _ I fun v s₁ k1 r1 => iter_sound r1 hds fun s₂ k2 hnone hit => ?_)
                · exact folded_plain hdi y
                · refine comp_core rm.hh c1 c2 (fun y d hy hf hd => ?_) (I.kp k1) k2 hnone ?_ hit hys hlen ?_ ?_ ?_
                  · obtain ⟨hk, _, hcd, hnc⟩ := c4 (y, .free) (mem_of_lookup hf) rfl
                    exact ⟨hnc, hcd, hk, hcl2 y (mem_of_lookup hf)⟩
                  · exact hit.lt
                  · intro own' C s₃ d r Q' Err' I' hr hq'
                    have ih' : ∀ e d', ev fns Φ n (relNames E.scope.names scope) (compρ ρ scope x d) e = some d' → ES prog w h₁ A own' (compEnv scope cl C E) (compρ ρ scope x d) e d' := by
                      rw [← relNames_eq (cl := cl) (C := C) I.kind]; exact ev_sound X n rm
                    split at hr
                    · rename_i ht
                      split at hr
                      · cases hr; exact ifsT_sound rm.zero ih' ht s₃ _ _ I' hq'
                      · cases hr
                    · rename_i ht
                      cases hr; exact ifsT_sound rm.zero ih' ht s₃ _ _ I' hq'
                    · cases hr
                  · intro own' C s₃ d y Q' Err' I' hr hq'
                    have ih' : ∀ e d', ev fns Φ n (relNames E.scope.names scope) (compρ ρ scope x d) e = some d' → ES prog w h₁ A own' (compEnv scope cl C E) (compρ ρ scope x d) e d' := by
                      rw [← relNames_eq (cl := cl) (C := C) I.kind]; exact ev_sound X n rm
                    split at hr
                    · split at hr
                      · rename_i hy
                        cases hr; exact ih' _ _ hy s₃ _ _ I' hq'
                      · cases hr
                    · cases hr
                    · cases hr
                  · intro Da C s' ks r ⟨m, hm⟩ hC hDC
                    refine ⟨m, hm, fun h' hs' => hq _ _ ⟨fun b o e => hs'.extBut b o (fun q => ?_) (ks.heap b o (k1.heap b o e)), ks.os.trans k1.os, k1.gens.trans ks.gens⟩ (r.kps (kpS_dict hs' (ns_data hm)) (fun b hb => nomatch hb))⟩
                    subst q
                    have := k1.heap _ _ e
                    rw [hC] at this; cases this
              · cases h
            · cases h
          · cases h
        · cases h
      · cases h
    · cases h
end Mine
namespace Mine

inductive V where
  | sh (d : D)
  | ow (ds : List D)
noncomputable def shρ (ρ : Str → Option V) : Str → Option D := fun x => match ρ x with | some (.sh d) => some d | _ => Option.none
noncomputable def upd (ρ : Str → Option V) (x : Str) (v : V) : Str → Option V := fun y => if y = x then some v else ρ y
noncomputable def valOf (E : Env) (m cm : Str → Option Value) (x : Str) : Option Value := match E.kindOf x with
  | some .local => m x
  | some .cell => cm x
  | _ => none
noncomputable abbrev ownOf (own₀ : List Addr) (mine : List (Str × Addr)) : List Addr := own₀ ++ mine.map (·.2)

/-- a def's frame under way; s₀: the state at its start -/
structure SV (h₁ : Heap) (s₀ : Shared) (own₀ : List Addr) (E : Env) (mine : List (Str × Addr)) (ρ : Str → Option V) (m cm : Str → Option Value) (s : Shared) : Prop where
  k0 : Kp s₀ s
  base : ∀ b o, h₁.get? b = some o → s₀.heap.get? b = some o
  kind : E.scope.kind = .function
  globals : E.globals = mainGlobals
  builtins : E.builtins = builtinsNs
  live₀ : ∀ a ∈ own₀, ∃ o, s₀.heap.get? a = some o
  ns : s.heap.Ns E.locals m
  cells : ∀ x c, E.cells.lookup x = some c → s.heap.IsCell c (cm x)
  hasc : ∀ x, E.kindOf x = some .cell → ∃ c, E.cells.lookup x = some c
  apart : ∀ x y c, E.cells.lookup x = some c → E.cells.lookup y = some c → x = y
  freshL : s₀.heap.get? E.locals = none
  freshC : ∀ x c, E.cells.lookup x = some c → s₀.heap.get? c = none
  mlive : ∀ p ∈ mine, s₀.heap.get? p.2 = none ∧ ∃ vs, s.heap.PlainList p.2 vs
  muniq : ∀ p ∈ mine, ∀ q ∈ mine, p.2 = q.2 → p.1 = q.1
  sh : ∀ x d, ρ x = some (.sh d) → ∃ v, valOf E m cm x = some v ∧ RD (ownOf own₀ mine) s.heap v d
  ow : ∀ x ds, ρ x = some (.ow ds) → ∃ a vs, valOf E m cm x = some (.ref a) ∧ (x, a) ∈ mine ∧ s.heap.PlainList a vs ∧ RDs (ownOf own₀ mine) s.heap vs.toList ds

section
variable {h₁ : Heap} {s₀ : Shared} {own₀ : List Addr} {E : Env} {mine : List (Str × Addr)} {ρ : Str → Option V} {m cm : Str → Option Value} {s : Shared}

theorem SV.base' (I : SV h₁ s₀ own₀ E mine ρ m cm s) : ∀ b o, h₁.get? b = some o → s.heap.get? b = some o := fun b o e => I.k0.heap b o (I.base b o e)
theorem SV.live (I : SV h₁ s₀ own₀ E mine ρ m cm s) : ∀ a ∈ ownOf own₀ mine, ∃ o, s.heap.get? a = some o := fun a ha => by
  rcases List.mem_append.mp ha with h | h
  · obtain ⟨o, e⟩ := I.live₀ a h; exact ⟨o, I.k0.heap a o e⟩
  · obtain ⟨p, hp, rfl⟩ := List.mem_map.mp h
    obtain ⟨_, vs, n, e⟩ := I.mlive p hp
    exact ⟨_, e⟩
theorem SV.mineX (I : SV h₁ s₀ own₀ E mine ρ m cm s) : ∀ b ∈ mine.map (·.2), b ∈ ownOf own₀ mine ∧ ∃ vs, s.heap.IsList b vs := fun b hb => by
  refine ⟨List.mem_append_right _ hb, ?_⟩
  obtain ⟨p, hp, rfl⟩ := List.mem_map.mp hb
  obtain ⟨_, vs, h⟩ := I.mlive p hp
  exact ⟨vs, h.isList⟩
theorem SV.ev (I : SV h₁ s₀ own₀ E mine ρ m cm s) : EV h₁ (ownOf own₀ mine) E (shρ ρ) s where
  base := I.base'
  kind := I.kind
  globals := I.globals
  builtins := I.builtins
  live := I.live
  var := fun x d e => by
    unfold shρ at e
    split at e
    · rename_i d' hd
      cases e
      obtain ⟨v, hv, r⟩ := I.sh x _ hd
      refine ⟨v, ?_, r⟩
      unfold valOf at hv
      split at hv
      · rename_i hk; exact .inl ⟨hk, m, I.ns, hv⟩
      · rename_i hk
        obtain ⟨c, hc⟩ := I.hasc x hk
        exact .inr ⟨.inl hk, c, hc, hv ▸ I.cells x c hc⟩
      · cases hv
    · cases e
theorem SV.kp (I : SV h₁ s₀ own₀ E mine ρ m cm s) {s' : Shared} (k : Kp s s') : SV h₁ s₀ own₀ E mine ρ m cm s' where
  k0 := I.k0.trans k
  base := I.base
  kind := I.kind
  globals := I.globals
  builtins := I.builtins
  live₀ := I.live₀
  ns := I.ns.keeps k.heap
  cells := fun x c e => (I.cells x c e).keeps k.heap
  hasc := I.hasc
  apart := I.apart
  freshL := I.freshL
  freshC := I.freshC
  mlive := fun p hp => ⟨(I.mlive p hp).1, let ⟨vs, h⟩ := (I.mlive p hp).2; ⟨vs, h.at fun o e => k.heap _ o e⟩⟩
  muniq := I.muniq
  sh := fun x d e => let ⟨v, hv, r⟩ := I.sh x d e; ⟨v, hv, r.keeps k.heap⟩
  ow := fun x ds e => let ⟨a, vs, hv, hm, hp, r⟩ := I.ow x ds e; ⟨a, vs, hv, hm, hp.at fun o e => k.heap _ o e, r.keeps k.heap⟩

noncomputable def IterObj (o : Obj) : Prop := (o.cls ≠ .type "list" ∧ o.cls ≠ .type "tuple" ∧ o.cls ≠ .type "range") ∧ ∃ vs, o.data = .fields vs
theorem kpR_extBut {It : Addr} {own : List Addr} {h h' : Heap} (hk : Heap.ExtBut It h h') (hI : ∀ o, h.get? It = some o → IterObj o) : KpR own h h' := fun b o e hc _ _ _ => hk b o (fun q => by
  subst q
  have := (hI o e).1
  rcases hc with c | c | c <;> simp [c] at this) e
/-- an object that is none of the frame's own changes (an iterator) -/
theorem SV.but' (I : SV h₁ s₀ own₀ E mine ρ m cm s) {s' : Shared} {It : Addr} (hI0 : s₀.heap.get? It = none) (kr : ∀ own, KpR own s.heap s'.heap) (neL : E.locals ≠ It) (neC : ∀ x c, E.cells.lookup x = some c → c ≠ It)
    (neM : ∀ (a : Addr) vs, s.heap.PlainList a vs → a ≠ It) (hk : Heap.ExtBut It s.heap s'.heap) (hos : s'.os = s.os) (hg : GX s.gens s'.gens) : SV h₁ s₀ own₀ E mine ρ m cm s' :=
  {
    k0 := ⟨fun b o e => hk b o (fun q => by subst q; rw [hI0] at e; cases e) (I.k0.heap b o e), hos.trans I.k0.os, I.k0.gens.trans hg⟩
    base := I.base
    kind := I.kind
    globals := I.globals
    builtins := I.builtins
    live₀ := I.live₀
    ns := I.ns.extBut hk neL
    cells := fun x c e => let ⟨o, ho, hd⟩ := I.cells x c e; ⟨o, hk c o (neC x c e) ho, hd⟩
    hasc := I.hasc
    apart := I.apart
    freshL := I.freshL
    freshC := I.freshC
    mlive := fun p hp => ⟨(I.mlive p hp).1, let ⟨vs, h⟩ := (I.mlive p hp).2; ⟨vs, h.extBut hk (neM _ _ h)⟩⟩
    muniq := I.muniq
    sh := fun x d e => let ⟨v, hv, r⟩ := I.sh x d e; ⟨v, hv, r.kpr (kr _)⟩
    ow := fun x ds e => let ⟨a, vs, hv, hm, hp, r⟩ := I.ow x ds e; ⟨a, vs, hv, hm, hp.extBut hk (neM _ _ hp), r.kpr (kr _)⟩ }
theorem SV.but (I : SV h₁ s₀ own₀ E mine ρ m cm s) {s' : Shared} {It : Addr} (hI0 : s₀.heap.get? It = none) (hId : ∀ o, s.heap.get? It = some o → IterObj o)
    (hk : Heap.ExtBut It s.heap s'.heap) (hos : s'.os = s.os) (hg : GX s.gens s'.gens) : SV h₁ s₀ own₀ E mine ρ m cm s' := by
  have kr : ∀ own, KpR own s.heap s'.heap := fun own => kpR_extBut hk hId
  have neL : E.locals ≠ It := by
    rintro rfl
    obtain ⟨o, es, n, ho, hd, _⟩ := I.ns
    obtain ⟨_, vs, hv⟩ := hId o ho
    rw [hd] at hv; cases hv
  have neC : ∀ x c, E.cells.lookup x = some c → c ≠ It := by
    rintro x c hc rfl
    obtain ⟨o, ho, hd⟩ := I.cells x c hc
    obtain ⟨_, vs, hv⟩ := hId o ho
    rw [hd] at hv; cases hv
  have neM : ∀ (a : Addr) vs, s.heap.PlainList a vs → a ≠ It := by
    rintro a vs ⟨n, e⟩ rfl
    have := (hId _ e).1.1
    simp at this
  exact I.but' hI0 kr neL neC neM hk hos hg

noncomputable def freeze (ρ : Str → Option V) : Str → Option V := fun x => match ρ x with
  | some (.ow ds) => some (.sh (.lst ds))
  | o => o
theorem SV.freeze (I : SV h₁ s₀ own₀ E mine ρ m cm s) : SV h₁ s₀ own₀ E [] (freeze ρ) m cm s where
  k0 := I.k0
  base := I.base
  kind := I.kind
  globals := I.globals
  builtins := I.builtins
  live₀ := I.live₀
  ns := I.ns
  cells := I.cells
  hasc := I.hasc
  apart := I.apart
  freshL := I.freshL
  freshC := I.freshC
  mlive := fun p hp => nomatch hp
  muniq := fun p hp => nomatch hp
  sh := fun x d e => by
    have sub : ∀ b, b ∈ ownOf own₀ [] → (∃ o, s.heap.get? b = some o) → b ∈ ownOf own₀ mine := fun b hb _ => by
      simp only [ownOf, List.map_nil, List.append_nil] at hb
      exact List.mem_append_left _ hb
    unfold Mine.freeze at e
    split at e
    · rename_i ds hds
      cases e
      obtain ⟨a, vs, hv, hm, hp, r⟩ := I.ow x ds hds
      refine ⟨_, hv, .lst hp (fun ha => ?_) (r.sub sub)⟩
      simp only [ownOf, List.map_nil, List.append_nil] at ha
      obtain ⟨o, e⟩ := I.live₀ a ha
      rw [(I.mlive _ hm).1] at e; cases e
    · obtain ⟨v, hv, r⟩ := I.sh x d e
      exact ⟨v, hv, r.sub sub⟩
  ow := fun x ds e => by
    unfold Mine.freeze at e
    split at e
    · cases e
    · rename_i hne
      exact absurd e (hne ds)

theorem valOf_store {E : Env} {m cm : Str → Option Value} {x y : Str} {v : Value} (hk : E.kindOf x = some .local) : valOf E (fun z => if z = x then some v else m z) cm y = if y = x then some v else valOf E m cm y := by
  unfold valOf
  by_cases h : y = x
  · subst h; simp [hk]
  · simp only [h, if_false]
theorem valOf_storeC {E : Env} {m cm : Str → Option Value} {x y : Str} {v : Value} (hk : E.kindOf x = some .cell) : valOf E m (fun z => if z = x then some v else cm z) y = if y = x then some v else valOf E m cm y := by
  unfold valOf
  by_cases h : y = x
  · subst h; simp [hk]
  · simp only [h, if_false]

/-- the frame behind the store of a name: what the store changes, and nothing else -/
theorem SV.stored (I : SV h₁ s₀ own₀ E mine ρ m cm s) {prog : Program} {w : World} {A : Around} {Err : Value → Shared → Prop} {x : Str} {v : Value} {Q : Unit → Shared → Prop} (hk : E.kindOf x = some .local ∨ E.kindOf x = some .cell)
    (hno : ∀ ds, ρ x ≠ some (.ow ds))
    (h : ∀ s' m' cm', KpS [] s.heap s'.heap → (∃ a, Heap.SameBut a s.heap s'.heap ∧ (a = E.locals ∨ ∃ y, E.cells.lookup y = some a)) → (∀ y, valOf E m' cm' y = if y = x then some v else valOf E m cm y) → SV h₁ s₀ own₀ E mine (fun y => if y = x then Option.none else ρ y) m' cm' s' → Q () s') :
    wpAny (model prog w) A (storeName E x v) Q Err s := by
  have fin : ∀ (a : Addr) (h' : Heap) (tk : Nat) (m' cm' : Str → Option Value), (a = E.locals ∨ ∃ y, E.cells.lookup y = some a) → Heap.SameBut a s.heap h' → (∀ o, s.heap.get? a = some o → (∃ es n, o.data = .dict es n) ∨ ∃ v, o.data = .cell v) → s₀.heap.get? a = none →
      h'.Ns E.locals m' → (∀ y c, E.cells.lookup y = some c → h'.IsCell c (cm' y)) → (∀ y, valOf E m' cm' y = if y = x then some v else valOf E m cm y) → Q () { s with heap := h', toks := tk } := by
    intro a h' tk m' cm' hpl hs hd ha hn hc hv
    have ks := kpS_dict hs hd
    have hX : ∀ own : List Addr, ∀ b ∈ ([] : List Addr), b ∈ own ∧ ∃ vs, s.heap.IsList b vs := fun _ b hb => nomatch hb
    have neM : ∀ (b : Addr) vs, s.heap.PlainList b vs → b ≠ a := by
      rintro b vs ⟨n, e⟩ rfl
      rcases hd _ e with ⟨es, n, q⟩ | ⟨v, q⟩ <;> cases q
    refine h _ m' cm' ks ⟨a, hs, hpl⟩ hv {
      k0 := ⟨fun b o e => hs.extBut b o (fun q => by subst q; rw [ha] at e; cases e) (I.k0.heap b o e), I.k0.os, I.k0.gens⟩
      base := I.base
      kind := I.kind
      globals := I.globals
      builtins := I.builtins
      live₀ := I.live₀
      ns := hn
      cells := hc
      hasc := I.hasc
      apart := I.apart
      freshL := I.freshL
      freshC := I.freshC
      mlive := fun p hp => ⟨(I.mlive p hp).1, let ⟨vs, h⟩ := (I.mlive p hp).2; ⟨vs, h.extBut hs.extBut (neM _ _ h)⟩⟩
      muniq := I.muniq
      sh := fun y d e => ?_
      ow := fun y ds e => ?_ }
    · split at e
      · cases e
      · rename_i hy
        obtain ⟨u, hu, r⟩ := I.sh y d e
        exact ⟨u, by rw [hv y, if_neg hy]; exact hu, r.kps ks (hX _)⟩
    · split at e
      · cases e
      · rename_i hy
        obtain ⟨b, vs, hu, hm, hp, r⟩ := I.ow y ds e
        exact ⟨b, vs, by rw [hv y, if_neg hy]; exact hu, hm, hp.extBut hs.extBut (neM _ _ hp), r.kps ks (hX _)⟩
  rcases hk with hk | hk
  · refine wpAny_storeName_local hk I.ns (fun h' hn' hs' => ?_) (by simp [I.kind])
    refine fin _ h' _ _ cm (.inl rfl) hs' (ns_data I.ns) I.freshL hn' (fun y c hc => (I.cells y c hc).sameBut hs' ?_) fun y => valOf_store hk
    rintro rfl
    obtain ⟨o, es, n, ho, hd, _⟩ := I.ns
    obtain ⟨o', ho', hd'⟩ := I.cells y _ hc
    rw [ho] at ho'; cases ho'; rw [hd] at hd'; cases hd'
  · obtain ⟨c, hc⟩ := I.hasc x hk
    refine wpAny_storeName_cell I.kind hk hc (I.cells x c hc) fun h' hc' hs' => ?_
    refine fin c h' s.toks m (fun z => if z = x then some v else cm z) (.inr ⟨x, hc⟩) hs' (cell_data (I.cells x c hc)) (I.freshC x c hc) (I.ns.sameBut hs' ?_) (fun y c' hy => ?_) fun y => valOf_storeC hk
    · rintro rfl
      obtain ⟨o, es, n, ho, hd, _⟩ := I.ns
      obtain ⟨o', ho', hd'⟩ := I.cells x _ hc
      rw [ho] at ho'; cases ho'; rw [hd] at hd'; cases hd'
    · by_cases h : y = x
      · subst h
        rw [hc] at hy; cases hy
        simpa using hc'
      · simp only [h, if_false]
        refine (I.cells y c' hy).sameBut hs' ?_
        rintro rfl
        exact h (I.apart y x _ hy hc)
/-- a plain store -/
theorem SV.store (I : SV h₁ s₀ own₀ E mine ρ m cm s) {prog : Program} {w : World} {A : Around} {Err : Value → Shared → Prop} {x : Str} {v : Value} {d : D} {Q : Unit → Shared → Prop} (hk : E.kindOf x = some .local ∨ E.kindOf x = some .cell)
    (hno : ∀ ds, ρ x ≠ some (.ow ds)) (r : RD (ownOf own₀ mine) s.heap v d)
    (h : ∀ s' m' cm', KpS [] s.heap s'.heap → (∃ a, Heap.SameBut a s.heap s'.heap ∧ (a = E.locals ∨ ∃ y, E.cells.lookup y = some a)) → SV h₁ s₀ own₀ E mine (upd ρ x (.sh d)) m' cm' s' → Q () s') : wpAny (model prog w) A (storeName E x v) Q Err s :=
  I.stored hk hno fun s' m' cm' ks hpl hv I' => h s' m' cm' ks hpl { I' with
    sh := fun y d' e => by
      unfold upd at e
      split at e
      · rename_i hy
        cases e
        exact ⟨v, by rw [hv y, if_pos hy], r.kps ks fun b hb => nomatch hb⟩
      · rename_i hy
        exact I'.sh y d' (by simp [hy, e])
    ow := fun y ds e => by
      unfold upd at e
      split at e
      · cases e
      · rename_i hy
        exact I'.ow y ds (by simp [hy, e]) }
/-- the store of a new list that the def is to grow -/
theorem SV.storeOw (I : SV h₁ s₀ own₀ E mine ρ m cm s) {prog : Program} {w : World} {A : Around} {Err : Value → Shared → Prop} {s₂ : Shared} {x : Str} {a : Addr} {vs : Array Value} {ds : List D} {Q : Unit → Shared → Prop} (hk : E.kindOf x = some .local ∨ E.kindOf x = some .cell)
    (hno : ∀ ds, ρ x ≠ some (.ow ds)) (k : Kp s s₂) (ha : s.heap.get? a = none) (hp : s₂.heap.PlainList a vs) (r : RDs (ownOf own₀ ((x, a) :: mine)) s₂.heap vs.toList ds)
    (h : ∀ s' m' cm', KpS [] s₂.heap s'.heap → (∃ a, Heap.SameBut a s₂.heap s'.heap ∧ (a = E.locals ∨ ∃ y, E.cells.lookup y = some a)) → SV h₁ s₀ own₀ E ((x, a) :: mine) (upd ρ x (.ow ds)) m' cm' s' → Q () s') : wpAny (model prog w) A (storeName E x (.ref a)) Q Err s₂ := by
  refine (I.kp k).stored hk hno fun s' m' cm' ks hpl hv I' => h s' m' cm' ks hpl ?_
  have nX : ∀ own : List Addr, ∀ b ∈ ([] : List Addr), b ∈ own ∧ ∃ vs, s₂.heap.IsList b vs := fun _ b hb => nomatch hb
  have pl : ∀ (b : Addr) ws, s₂.heap.PlainList b ws → s'.heap.PlainList b ws := fun b ws ⟨n, e⟩ => ⟨n, ks b _ e (by simp) (fun es n e => by cases e) (fun v e => by cases e)⟩
  have ha0 : s₀.heap.get? a = none := by
    cases e : s₀.heap.get? a with
    | none => rfl
    | some o => rw [I.k0.heap a o e] at ha; cases ha
  have ham : a ∉ mine.map (·.2) := fun hm => by
    obtain ⟨p, hp', rfl⟩ := List.mem_map.mp hm
    obtain ⟨_, vs, n, e⟩ := I.mlive p hp'
    rw [ha] at e; cases e
  have sub : ∀ b, b ∈ ownOf own₀ ((x, a) :: mine) → (∃ o, s.heap.get? b = some o) → b ∈ ownOf own₀ mine := fun b hb ⟨o, e⟩ => by
    simp only [ownOf, List.map_cons, List.mem_append, List.mem_cons] at hb ⊢
    rcases hb with hb | rfl | hb
    · exact .inl hb
    · rw [ha] at e; cases e
    · exact .inr hb
  exact { I' with
    mlive := fun p hp' => by
      rcases List.mem_cons.mp hp' with rfl | hp'
      · exact ⟨ha0, vs, pl _ _ hp⟩
      · exact I'.mlive p hp'
    muniq := fun p hp' q hq' e => by
      rcases List.mem_cons.mp hp' with rfl | hp' <;> rcases List.mem_cons.mp hq' with rfl | hq'
      · rfl
      · exact absurd (List.mem_map.mpr ⟨q, hq', e.symm⟩) ham
      · exact absurd (List.mem_map.mpr ⟨p, hp', e⟩) ham
      · exact I'.muniq p hp' q hq' e
    sh := fun y d' e => by
      unfold upd at e
      split at e
      · cases e
      · rename_i hy
        obtain ⟨u, hu, ru⟩ := I.sh y d' e
        exact ⟨u, by rw [hv y, if_neg hy]; exact hu, ((ru.sub sub).keeps k.heap).kps ks (nX _)⟩
    ow := fun y ds' e => by
      unfold upd at e
      split at e
      · rename_i hy
        cases e
        exact ⟨a, vs, by rw [hv y, if_pos hy], by rw [hy]; exact List.mem_cons_self, pl _ _ hp, r.kps ks (nX _)⟩
      · rename_i hy
        obtain ⟨b, ws, hu, hm, hb, rb⟩ := I.ow y ds' e
        exact ⟨b, ws, by rw [hv y, if_neg hy]; exact hu, List.mem_cons_of_mem _ hm, pl _ _ (hb.at fun o e => k.heap _ o e), ((rb.sub sub).keeps k.heap).kps ks (nX _)⟩ }

/-- an owned list is grown or cut -/
theorem SV.grow (I : SV h₁ s₀ own₀ E mine ρ m cm s) {s' : Shared} {x : Str} {a : Addr} {ds ds' : List D} {vs' : Array Value} (hx : ρ x = some (.ow ds)) (hm : (x, a) ∈ mine) (hv : valOf E m cm x = some (.ref a)) (hs : Heap.SameBut a s.heap s'.heap)
    (hos : s'.os = s.os) (hg : s'.gens = s.gens) (hp : s'.heap.PlainList a vs') (r : RDs (ownOf own₀ mine) s.heap vs'.toList ds') :
    SV h₁ s₀ own₀ E mine (upd ρ x (.ow ds')) m cm s' := by
  have ha0 := (I.mlive _ hm).1
  obtain ⟨ws, n, hpa⟩ := (I.mlive _ hm).2
  have ks : KpS [a] s.heap s'.heap := fun b o e hb _ _ => hs.extBut b o (by simpa using hb) e
  have hX : ∀ b ∈ [a], b ∈ ownOf own₀ mine ∧ ∃ vs, s.heap.IsList b vs := fun b hb => by
    have : b = a := by simpa using hb
    subst this
    exact I.mineX _ (List.mem_map.mpr ⟨_, hm, rfl⟩)
  have neL : E.locals ≠ a := by
    rintro rfl
    obtain ⟨o, es, n', ho, hd, _⟩ := I.ns
    rw [show s.heap.get? E.locals = _ from hpa] at ho; cases ho; cases hd
  have neC : ∀ x c, E.cells.lookup x = some c → c ≠ a := by
    rintro x c hc rfl
    obtain ⟨o, ho, hd⟩ := I.cells x c hc
    rw [show s.heap.get? c = _ from hpa] at ho; cases ho; cases hd
  exact {
    k0 := ⟨fun b o e => hs.extBut b o (fun q => by subst q; rw [ha0] at e; cases e) (I.k0.heap b o e), hos.trans I.k0.os, hg ▸ I.k0.gens⟩
    base := I.base
    kind := I.kind
    globals := I.globals
    builtins := I.builtins
    live₀ := I.live₀
    ns := I.ns.sameBut hs neL
    cells := fun x c e => (I.cells x c e).sameBut hs (neC x c e)
    hasc := I.hasc
    apart := I.apart
    freshL := I.freshL
    freshC := I.freshC
    mlive := fun p hp' => ⟨(I.mlive p hp').1, by
      by_cases q : p.2 = a
      · rw [q]; exact ⟨_, hp⟩
      · obtain ⟨vs, h⟩ := (I.mlive p hp').2
        exact ⟨vs, h.extBut hs.extBut q⟩⟩
    muniq := I.muniq
    sh := fun y d' e => by
      unfold upd at e
      split at e
      · cases e
      · obtain ⟨u, hu, ru⟩ := I.sh y d' e
        exact ⟨u, hu, ru.kps ks hX⟩
    ow := fun y ds'' e => by
      unfold upd at e
      split at e
      · rename_i hy
        cases e; subst hy
        exact ⟨a, vs', hv, hm, hp, r.kps ks hX⟩
      · rename_i hy
        obtain ⟨b, ws', hu, hm', hb, rb⟩ := I.ow y ds'' e
        have : b ≠ a := fun q => hy (I.muniq _ hm' _ hm q)
        exact ⟨b, ws', hu, hm', hb.extBut hs.extBut this, rb.kps ks hX⟩ }
end
end Mine
namespace Mine

inductive FlowD where
  | next
  | ret (d : D)

noncomputable def okVar (ns : List (Str × NameKind)) (ρ : Str → Option V) (x : Str) : Bool :=
  (ns.lookup x == some .local || ns.lookup x == some .cell) && (match ρ x with | some (.ow _) => false | _ => true)
noncomputable def asgName (ns : List (Str × NameKind)) (x : Str) (d : D) (ρ : Str → Option V) : Option (Str → Option V) := if okVar ns ρ x = true then some (upd ρ x (.sh d)) else Option.none
noncomputable def asgNames (ns : List (Str × NameKind)) : List Expr → List D → (Str → Option V) → Option (Str → Option V)
  | [], [], ρ => some ρ
  | .Name x _ :: es, d :: ds, ρ => (match asgName ns x d ρ with | some ρ' => asgNames ns es ds ρ' | Option.none => Option.none)
  | _, _, _ => Option.none
/-- the store into a loop's target -/
noncomputable def asgT (ns : List (Str × NameKind)) (t : Expr) (d : D) (ρ : Str → Option V) : Option (Str → Option V) :=
  match t, d with
  | .Name x _, d => asgName ns x d ρ
  | .Tuple es _ _, .tup ds => asgNames ns es ds ρ
  | _, _ => Option.none
noncomputable def forS (asg : D → (Str → Option V) → Option (Str → Option V)) (body : (Str → Option V) → Option (FlowD × (Str → Option V))) : List D → (Str → Option V) → Option (FlowD × (Str → Option V))
  | [], ρ => some (.next, ρ)
  | d :: ds, ρ => match asg d ρ with
    | some ρ₁ => (match body ρ₁ with
      | some (.next, ρ₂) => forS asg body ds ρ₂
      | some (.ret r, ρ₂) => some (.ret r, ρ₂)
      | Option.none => Option.none)
    | Option.none => Option.none

noncomputable def inpD (op : Operator) (a b : D) : Option D :=
  match op, a, b with
  | .Add, .int x, .int y => some (.int (x + y))
  | .Sub, .int x, .int y => some (.int (x - y))
  | _, _, _ => Option.none

/-- the forms of a statement that holds no other -/
inductive W0 : Stmt → Type
  | empty (x : Str) (p q r : Pos) : W0 (.Assign [.Name x p] (.List [] q) r)
  | call (x : Str) (p : Pos) (f : Str) (pf : Pos) (y : Str) (py pc r : Pos) : W0 (.Assign [.Name x p] (.Call (.Name f pf) [.Name y py] [] pc) r)
  | asg (x : Str) (p : Pos) (value : Expr) (r : Pos) : W0 (.Assign [.Name x p] value r)
  | tup (es : List Expr) (tk : Nat) (tp : Pos) (f : Str) (fp : Pos) (args : List Expr) (kw : List Keyword) (cp r : Pos) : W0 (.Assign [.Tuple es tk tp] (.Call (.Name f fp) args kw cp) r)
  | aug (x : Str) (p : Pos) (op : Operator) (value : Expr) (r : Pos) : W0 (.AugAssign (.Name x p) op value r)
  | ret (e : Expr) (r : Pos) : W0 (.Return (some e) r)
  | appPop (x : Str) (p : Pos) (a : Str) (apos : Pos) (y : Str) (q : Pos) (b : Str) (bpos bcp : Pos) (e : Expr) (tk : Nat) (tp cp r : Pos) : W0 (.Expr (.Call (.Attribute (.Name x p) a apos) [.Tuple [.Call (.Attribute (.Name y q) b bpos) [] [] bcp, e] tk tp] [] cp) r)
  | app (x : Str) (p : Pos) (a : Str) (apos : Pos) (e : Expr) (cp r : Pos) : W0 (.Expr (.Call (.Attribute (.Name x p) a apos) [e] [] cp) r)
  | no (st : Stmt) : W0 st

noncomputable def w0 : (st : Stmt) → W0 st
  | .Assign [.Name x p] (.List [] q) r => .empty x p q r
  | .Assign [.Name x p] (.Call (.Name f pf) [.Name y py] [] pc) r => .call x p f pf y py pc r
  | .Assign [.Name x p] value r => .asg x p value r
  | .Assign [.Tuple es tk tp] (.Call (.Name f fp) args kw cp) r => .tup es tk tp f fp args kw cp r
  | .AugAssign (.Name x p) op value r => .aug x p op value r
  | .Return (some e) r => .ret e r
  | .Expr (.Call (.Attribute (.Name x p) a apos) [.Tuple [.Call (.Attribute (.Name y q) b bpos) [] [] bcp, e] tk tp] [] cp) r => .appPop x p a apos y q b bpos bcp e tk tp cp r
  | .Expr (.Call (.Attribute (.Name x p) a apos) [e] [] cp) r => .app x p a apos e cp r
  | st => .no st

/-- one statement that holds no other, by its form -/
noncomputable def ex0W (fns : List Str) (Φ : Str → List D → Option D) (muts : List Str) (n : Nat) (ns : List (Str × NameKind)) (ρ : Str → Option V) {st : Stmt} (v : W0 st) : Option (FlowD × (Str → Option V)) :=
  match st, v with
  | _, .empty x _ _ _ => if okVar ns ρ x = true ∧ muts.contains x = true then some (.next, upd ρ x (.ow [])) else Option.none
  | _, .call x _ f pf y py pc _ =>
    if muts.contains x = true then
      (if okVar ns ρ x = true ∧ f = Str.ofString "list" ∧ ns.lookup f = some .globalImplicit ∧ fns.contains f = false then
        (match ev fns Φ n ns (shρ ρ) (.Name y py) with | some (.lst ds) => if ds.length ≤ 10000 then some (.next, upd ρ x (.ow ds)) else Option.none | _ => Option.none)
      else Option.none)
    else if okVar ns ρ x = true then
      (match ev fns Φ n ns (shρ ρ) (.Call (.Name f pf) [.Name y py] [] pc) with | some d => some (.next, upd ρ x (.sh d)) | Option.none => Option.none)
    else Option.none
  | _, .asg x _ value _ =>
    if okVar ns ρ x = true then
      (match ev fns Φ n ns (shρ ρ) value with | some d => some (.next, upd ρ x (.sh d)) | Option.none => Option.none)
    else Option.none
  | _, .tup es _ _ f fp args kw cp _ => (match ev fns Φ n ns (shρ ρ) (.Call (.Name f fp) args kw cp) with
    | some (.tup ds) => (match asgNames ns es ds ρ with | some ρ' => some (.next, ρ') | Option.none => Option.none)
    | _ => Option.none)
  | _, .aug x _ op value _ =>
    if okVar ns ρ x = true then
      (match shρ ρ x, ev fns Φ n ns (shρ ρ) value with | some a, some b => (match inpD op a b with | some d => some (.next, upd ρ x (.sh d)) | Option.none => Option.none) | _, _ => Option.none)
    else Option.none
  | _, .ret e _ => (match ev fns Φ n ns (shρ (freeze ρ)) e with | some d => some (.ret d, freeze ρ) | Option.none => Option.none)
  | _, .appPop x _ a apos y _ b bpos bcp e _ _ cp _ =>
    if a = Str.ofString "append" ∧ b = Str.ofString "pop" ∧ (apos.endLine == cp.line) = true ∧ (bpos.endLine == bcp.line) = true ∧ x ≠ y ∧ (x == ("__debug__" : Str)) = false ∧ (y == ("__debug__" : Str)) = false ∧ notStar e = true then
      (match ρ x, ρ y, ev fns Φ n ns (shρ ρ) e with
      | some (.ow xs), some (.ow ys), some d => (match ys.getLast? with
        | some t => if xs.length ≤ 10000 ∧ ys.length ≤ 10000 then some (.next, upd (upd ρ y (.ow ys.dropLast)) x (.ow (xs ++ [.tup [t, d]]))) else Option.none
        | Option.none => Option.none)
      | _, _, _ => Option.none)
    else Option.none
  | _, .app x _ a apos e cp _ =>
    if (apos.endLine == cp.line) = true ∧ (x == ("__debug__" : Str)) = false ∧ notStar e = true then
      (match ρ x, ev fns Φ n ns (shρ ρ) e with
      | some (.ow xs), some d => if xs.length ≤ 10000 then
          (if a = Str.ofString "append" then some (.next, upd ρ x (.ow (xs ++ [d]))) else
            (match d with
            | .lst ys => if a = Str.ofString "extend" ∧ ys.length ≤ 10000 then some (.next, upd ρ x (.ow (xs ++ ys))) else Option.none
            | _ => Option.none))
        else Option.none
      | _, _ => Option.none)
    else Option.none
  | _, .no _ => Option.none
/-- one statement that holds no other -/
noncomputable def ex0 (fns : List Str) (Φ : Str → List D → Option D) (muts : List Str) (n : Nat) (ns : List (Str × NameKind)) (ρ : Str → Option V) (st : Stmt) : Option (FlowD × (Str → Option V)) := ex0W fns Φ muts n ns ρ (w0 st)

noncomputable def isOw (ρ : Str → Option V) : Expr → Bool
  | .Name x _ => (match ρ x with | some (.ow _) => true | _ => false)
  | _ => false

noncomputable def exS (fns : List Str) (Φ : Str → List D → Option D) (muts : List Str) (ns : List (Str × NameKind)) : Nat → (Str → Option V) → List Stmt → Option (FlowD × (Str → Option V))
  | 0, _, _ => Option.none
  | _ + 1, ρ, [] => some (.next, ρ)
  | n + 1, ρ, st :: rest =>
    match (match st with
      | .If t body orelse _ => (match tst (ev fns Φ n ns (shρ ρ)) t with
        | some true => exS fns Φ muts ns n ρ body
        | some false => exS fns Φ muts ns n ρ orelse
        | Option.none => Option.none)
      | .For t iter body [] _ =>
        (match ev fns Φ n ns (shρ (if isOw ρ iter = true then freeze ρ else ρ)) iter with
        | some d => (match iterD d with
          | some ds => if ds.length ≤ 10000 then forS (asgT ns t) (fun ρ' => exS fns Φ muts ns n ρ' body) ds (if isOw ρ iter = true then freeze ρ else ρ) else Option.none
          | Option.none => Option.none)
        | Option.none => Option.none)
      | st => ex0 fns Φ muts n ns ρ st) with
    | some (.next, ρ') => exS fns Φ muts ns n ρ' rest
    | some (.ret d, ρ') => some (.ret d, ρ')
    | Option.none => Option.none
end Mine
namespace Mine

theorem KpS.trans {X X' : List Addr} {h h₁ h₂ : Heap} (a : KpS X h h₁) (b : KpS X' h₁ h₂) (hX : ∀ x ∈ X', x ∈ X ∨ h.get? x = none) : KpS X h h₂ := fun c o e hc h1 h2 =>
  b c o (a c o e hc h1 h2) (fun hm => by
    rcases hX c hm with q | q
    · exact hc q
    · rw [q] at e; cases e) h1 h2
theorem KpS.more {X X' : List Addr} {h h' : Heap} (a : KpS X h h') (hX : ∀ x ∈ X, x ∈ X' ∨ h.get? x = none) : KpS X' h h' := fun c o e hc h1 h2 => a c o e (fun hm => by
    rcases hX c hm with q | q
    · exact hc q
    · rw [q] at e; cases e) h1 h2

noncomputable def FlowIs (own₀ : List Addr) (fl : Flow) (r : FlowD) (s' : Shared) : Prop := match r with
  | .next => fl = .next
  | .ret d => ∃ v, fl = .ret v ∧ RD own₀ s'.heap v d

noncomputable abbrev adr (mine : List (Str × Addr)) : List Addr := mine.map (·.2)

noncomputable def Dm (h h' : Heap) : Prop := ∀ a o, h.get? a = some o → ∃ o', h'.get? a = some o'
theorem Dm.trans {h h₁ h₂ : Heap} (a : Dm h h₁) (b : Dm h₁ h₂) : Dm h h₂ := fun x o e => let ⟨o', e'⟩ := a x o e; b x o' e'
theorem Dm.of {h h' : Heap} (k : ∀ b o, h.get? b = some o → h'.get? b = some o) : Dm h h' := fun a o e => ⟨o, k a o e⟩
theorem Dm.none {h h' : Heap} (d : Dm h h') {a : Addr} (e : h'.get? a = none) : h.get? a = none := by
  cases q : h.get? a with
  | none => rfl
  | some o => obtain ⟨o', e'⟩ := d a o q; rw [e] at e'; cases e'
theorem Dm.but {h h' : Heap} {c : Addr} (k : Heap.ExtBut c h h') (x : ∃ o, h'.get? c = some o) : Dm h h' := fun a o e => by
  by_cases q : a = c
  · rw [q]; exact x
  · exact ⟨o, k a o q e⟩

/-- what a run from ρ leaves behind -/
noncomputable def Ends (h₁ : Heap) (s₀ : Shared) (own₀ : List Addr) (E : Env) (mine : List (Str × Addr)) (s : Shared) (r : FlowD) (ρ' : Str → Option V) (fl : Flow) (s' : Shared) : Prop :=
  ∃ mine' m' cm', SV h₁ s₀ own₀ E mine' ρ' m' cm' s' ∧ KpS (adr mine) s.heap s'.heap ∧ Dm s.heap s'.heap ∧ (∀ a ∈ adr mine', a ∈ adr mine ∨ s.heap.get? a = none) ∧ FlowIs own₀ fl r s'

theorem get_none_mono {h h' : Heap} {a : Addr} (k : ∀ b o, h.get? b = some o → h'.get? b = some o) (e : h'.get? a = none) : h.get? a = none := by
  cases q : h.get? a with
  | none => rfl
  | some o => rw [k a o q] at e; cases e

section
variable {h₁ : Heap} {s₀ : Shared} {own₀ : List Addr} {E : Env} {mine : List (Str × Addr)} {ρ : Str → Option V} {m cm : Str → Option Value} {s : Shared}

/-- two runs, one behind the other -/
theorem Ends.trans {s₁ s' : Shared} {mine₁ : List (Str × Addr)} {r : FlowD} {ρ' : Str → Option V} {fl : Flow} (ks : KpS (adr mine) s.heap s₁.heap) (dm : Dm s.heap s₁.heap) (hm : ∀ a ∈ adr mine₁, a ∈ adr mine ∨ s.heap.get? a = none)
    (x : Ends h₁ s₀ own₀ E mine₁ s₁ r ρ' fl s') : Ends h₁ s₀ own₀ E mine s r ρ' fl s' := by
  obtain ⟨mine', m', cm', I, ks', dm', hm', hf⟩ := x
  refine ⟨mine', m', cm', I, ks.trans ks' hm, dm.trans dm', fun a ha => ?_, hf⟩
  rcases hm' a ha with q | q
  · exact hm a q
  · exact .inr (dm.none q)
theorem Ends.of_kp {s₁ s' : Shared} {r : FlowD} {ρ' : Str → Option V} {fl : Flow} (k : Kp s s₁) (x : Ends h₁ s₀ own₀ E mine s₁ r ρ' fl s') : Ends h₁ s₀ own₀ E mine s r ρ' fl s' :=
  x.trans (kpS_of k.heap _) (.of k.heap) fun _ ha => .inl ha
theorem SV.dmPlace {s' : Shared} {ρ' : Str → Option V} {mine' : List (Str × Addr)} {m' cm' : Str → Option Value} (I' : SV h₁ s₀ own₀ E mine' ρ' m' cm' s') (h : ∃ a, Heap.SameBut a s.heap s'.heap ∧ (a = E.locals ∨ ∃ y, E.cells.lookup y = some a)) : Dm s.heap s'.heap := by
  obtain ⟨a, hs, hp⟩ := h
  refine .but hs.extBut ?_
  rcases hp with rfl | ⟨y, hy⟩
  · obtain ⟨o, _, _, ho, _⟩ := I'.ns; exact ⟨o, ho⟩
  · obtain ⟨o, ho, _⟩ := I'.cells y a hy; exact ⟨o, ho⟩

theorem okVar_spec {ns : List (Str × NameKind)} {x : Str} (h : okVar ns ρ x = true) : (ns.lookup x = some .local ∨ ns.lookup x = some .cell) ∧ ∀ ds, ρ x ≠ some (.ow ds) := by
  simp only [okVar, Bool.and_eq_true, Bool.or_eq_true, beq_iff_eq] at h
  refine ⟨h.1, fun ds e => ?_⟩
  rw [e] at h
  exact absurd h.2 (by simp)

variable {prog : Program} {w : World} {A : Around} {Err : Value → Shared → Prop}

theorem asgName_sound {x : Str} {v : Value} {d : D} {ρ' : Str → Option V} {Q : Unit → Shared → Prop} (I : SV h₁ s₀ own₀ E mine ρ m cm s) (e : asgName E.scope.names x d ρ = some ρ') (r : RD (ownOf own₀ mine) s.heap v d)
    (h : ∀ s' m' cm', SV h₁ s₀ own₀ E mine ρ' m' cm' s' → KpS [] s.heap s'.heap → Dm s.heap s'.heap → (∃ a, Heap.SameBut a s.heap s'.heap ∧ (a = E.locals ∨ ∃ y, E.cells.lookup y = some a)) → Q () s') : wpAny (model prog w) A (storeName E x v) Q Err s := by
  unfold asgName at e
  split at e
  · rename_i hok
    cases e
    obtain ⟨hk, hno⟩ := okVar_spec hok
    exact I.store hk hno r fun s' m' cm' ks hp I' => h s' m' cm' I' ks (I'.dmPlace hp) hp
  · cases e

theorem asgNames_sound : ∀ {es : List Expr} {ds : List D} {vs : List Value} {ρ ρ' : Str → Option V} {m cm : Str → Option Value} {s : Shared} {Q : Unit → Shared → Prop}, SV h₁ s₀ own₀ E mine ρ m cm s → asgNames E.scope.names es ds ρ = some ρ' →
    RDs (ownOf own₀ mine) s.heap vs ds → (∀ s' m' cm', SV h₁ s₀ own₀ E mine ρ' m' cm' s' → KpS [] s.heap s'.heap → Dm s.heap s'.heap → Q () s') →
    wpAny (model prog w) A (assignInOrder ((assignEach es E).map (·.2)) vs) Q Err s
  | [], ds, vs, ρ, ρ', m, cm, s, Q, I, e, r, h => by
    cases ds with
    | nil => cases e; cases r; exact wpAny_pure (h s m cm I (kpS_of (fun _ _ e => e) _) (.of fun _ _ e => e))
    | cons => cases e
  | e0 :: es, ds, vs, ρ, ρ', m, cm, s, Q, I, e, r, h => by
    cases ds with
    | nil => cases e0 <;> cases e
    | cons d ds =>
      cases e0 with
      | Name x p =>
        have e : (match asgName E.scope.names x d ρ with | some ρ' => asgNames E.scope.names es ds ρ' | Option.none => Option.none) = some ρ' := e
        split at e
        · rename_i ρ₁ h1
          cases r with
          | cons r1 rs =>
            show wpAny _ A (do holding _ (assign (.Name x p) E _); assignInOrder ((assignEach es E).map (·.2)) _) Q Err s
            refine wpAny_bind (wpAny_holding (wpAny_assign_Name (asgName_sound I h1 r1 fun s' m' cm' I' ks dm _ => ?_)))
            exact asgNames_sound I' e (rs.kps ks fun b hb => nomatch hb) fun s'' m'' cm'' I'' ks' dm' => h s'' m'' cm'' I'' (ks.trans ks' fun a ha => nomatch ha) (dm.trans dm')
        · cases e
      | _ => cases e
theorem assignEach_names : ∀ {es : List Expr} {ds : List D} {ns : List (Str × NameKind)} {ρ ρ' : Str → Option V}, asgNames ns es ds ρ = some ρ' → (assignEach es E).length = ds.length ∧ (assignEach es E).findIdx? (·.1) = none
  | [], ds, ns, ρ, ρ', e => by
    cases ds with
    | nil => exact ⟨rfl, rfl⟩
    | cons => cases e
  | e0 :: es, ds, ns, ρ, ρ', e => by
    cases ds with
    | nil => cases e0 <;> cases e
    | cons d ds =>
      cases e0 with
      | Name x p =>
        have e : (match asgName ns x d ρ with | some ρ' => asgNames ns es ds ρ' | Option.none => Option.none) = some ρ' := e
        split at e
        · rename_i ρ₁ h1
          obtain ⟨a, b⟩ := assignEach_names e
          refine ⟨by show (assignEach es E).length + 1 = _; rw [a]; rfl, ?_⟩
          show List.findIdx? (·.1) ((false, assign (.Name x p) E) :: assignEach es E) = none
          rw [List.findIdx?_cons, b]; rfl
        · cases e
      | _ => cases e
end
end Mine
namespace Mine

/-- a comprehension up to its end, whatever is done there -/
theorem comp_pre {prog : Program} {w : World} {h₁ : Heap} {k : Nat} {fns : List Str} {Φ : Str → List D → Option D} (X : Cx prog w h₁ k fns Φ) {n : Nat} {A : Around} {own : List Addr} {E : Env} {ρ : Str → Option D} (rm : Rm A k)
    {elt iter : Expr} {x : Str} {px : Pos} {ifs : List Expr} {scope : Scope} {pos : Pos} {d : D} {s : Shared} {RR : Value → Addr → Result → Shared → Prop} {Err : Value → Shared → Prop}
    (h : ev fns Φ n E.scope.names ρ (.ListComp elt [⟨.Name x px, iter, ifs, 0⟩] scope pos) = some d) (I : EV h₁ own E ρ s)
    (hRR : ∀ Da C s', Kp s s' → RD own s'.heap (.ref Da) d → (∃ m, s'.heap.Ns C m) → s.heap.get? C = none → Da ≠ C → RR (.ref Da) C (.ok .next) s') :
    ∃ cl, closureFor scope E = pure cl ∧ scope.kind = .function ∧ (∀ p ∈ scope.names, p.2 = .local → scope.names.lookup p.1 = some .local) ∧ (∀ y, foldedSetIterable iter E y = pure y) ∧
      wpAny (model prog w) A (eval iter E) (fun xv s₁ => wpAny (model prog w) A (pyIter xv) (fun it s₂ => wpAny (model prog w) A (newList []) (fun acc s₃ =>
        wpAny (model prog w) A (newFunctionEnv scope E.globals cl [] E.qual none .none (some E)) (fun cenv s₄ =>
          codeAny (model prog w) A (.compStart (.ListComp elt [⟨.Name x px, iter, ifs, 0⟩] scope pos) 0 it acc { cenv with scope := relabel scope E }) (RR acc cenv.locals) s₄) Err s₃) Err s₂) Err s₁) Err s := by
  cases n with
  | zero => cases h
  | succ n =>
    have ih : ∀ e d, ev fns Φ n E.scope.names ρ e = some d → ES prog w h₁ A own E ρ e d := ev_sound X n rm
    replace h : evW fns Φ (ev fns Φ n) E.scope.names ρ (.comp elt x px iter ifs scope pos) = some d := h
    dsimp only [evW] at h
    split at h
    · rename_i hok
      obtain ⟨c1, c2, c3, c4⟩ := compOk_spec hok
      split at h
      · rename_i di hdi
        split at h
        · rename_i ds hds
          split at h
          · rename_i hlen
            split at h
            · rename_i ys hys
              cases h
              have hcells : ∀ p ∈ scope.names, p.2 = .free → ∃ c, E.cells.lookup p.1 = some c := fun p hp hf => by
                obtain ⟨hk, ⟨d, hd⟩, _, _⟩ := c4 p hp hf
                obtain ⟨v, hv, _⟩ := I.var p.1 d hd
                rcases hv with ⟨hl, _⟩ | ⟨_, c, hc, _⟩
                · rw [show E.scope.names.lookup p.1 = some .local from hl] at hk; simp at hk
                · exact ⟨c, hc⟩
              obtain ⟨cl, hcl, hcl2⟩ := closure_of hcells
              refine ⟨cl, hcl, c1, c3, folded_plain hdi, ih _ _ hdi s _ _ I fun v s₁ k1 r1 => iter_sound r1 hds fun s₂ k2 hnone hit => ?_⟩
              refine comp_core rm.hh c1 c2 (fun y d hy hf hd => ?_) (I.kp k1) k2 hnone hit.lt hit hys hlen ?_ ?_ ?_
              · obtain ⟨hk, _, hcd, hnc⟩ := c4 (y, .free) (mem_of_lookup hf) rfl
                exact ⟨hnc, hcd, hk, hcl2 y (mem_of_lookup hf)⟩
              · intro own' C s₃ d r Q' Err' I' hr hq'
                have ih' : ∀ e d', ev fns Φ n (relNames E.scope.names scope) (compρ ρ scope x d) e = some d' → ES prog w h₁ A own' (compEnv scope cl C E) (compρ ρ scope x d) e d' := by
                  rw [← relNames_eq (cl := cl) (C := C) I.kind]; exact ev_sound X n rm
                split at hr
                · rename_i ht
                  split at hr
                  · cases hr; exact ifsT_sound rm.zero ih' ht s₃ _ _ I' hq'
                  · cases hr
                · rename_i ht
                  cases hr; exact ifsT_sound rm.zero ih' ht s₃ _ _ I' hq'
                · cases hr
              · intro own' C s₃ d y Q' Err' I' hr hq'
                have ih' : ∀ e d', ev fns Φ n (relNames E.scope.names scope) (compρ ρ scope x d) e = some d' → ES prog w h₁ A own' (compEnv scope cl C E) (compρ ρ scope x d) e d' := by
                  rw [← relNames_eq (cl := cl) (C := C) I.kind]; exact ev_sound X n rm
                split at hr
                · split at hr
                  · rename_i hy
                    cases hr; exact ih' _ _ hy s₃ _ _ I' hq'
                  · cases hr
                · cases hr
                · cases hr
              · intro Da C s' ks r hm hC hDC
                exact hRR Da C s' (k1.trans ks) r hm (get_none_mono k1.heap hC) hDC
            · cases h
          · cases h
        · cases h
      · cases h
    · cases h

/-- an exec, from ρ to r and ρ' -/
noncomputable def XS (prog : Program) (w : World) (h₁ : Heap) (s₀ : Shared) (own₀ : List Addr) (E : Env) (A : Around) (ρ : Str → Option V) (r : FlowD) (ρ' : Str → Option V) (t : Sem Flow) : Prop :=
  ∀ (mine : List (Str × Addr)) (m cm : Str → Option Value) (s : Shared) (Q : Flow → Shared → Prop) (Err : Value → Shared → Prop), SV h₁ s₀ own₀ E mine ρ m cm s → (∀ fl s', Ends h₁ s₀ own₀ E mine s r ρ' fl s' → Q fl s') → wpAny (model prog w) A t Q Err s

theorem swaps_plain {value : Expr} {t : Option Expr} {l : Nat} {E : Env} (h : ∀ a b c d, value ≠ .ListComp a b c d) (h2 : ∀ a b c d, value ≠ .SetComp a b c d) (h3 : ∀ a b c d e, value ≠ .DictComp a b c d e) : swapsWith value t l E = pure false := by
  cases value <;> first | rfl | exact absurd rfl (h _ _ _ _) | exact absurd rfl (h2 _ _ _ _) | exact absurd rfl (h3 _ _ _ _ _)

section
variable {prog : Program} {w : World} {h₁ : Heap} {k : Nat} {fns : List Str} {Φ : Str → List D → Option D} {A : Around} {s₀ : Shared} {own₀ : List Addr} {E : Env} {ρ : Str → Option V}

theorem assign_plain (X : Cx prog w h₁ k fns Φ) {n : Nat} (rm : Rm A k) {x : Str} {px pos : Pos} {value : Expr} {d : D} (hok : okVar E.scope.names ρ x = true) (hd : ev fns Φ n E.scope.names (shρ ρ) value = some d) :
    XS prog w h₁ s₀ own₀ E A ρ .next (upd ρ x (.sh d)) (exec (.Assign [.Name x px] value pos) E) := by
  intro mine m cm s Q Err I hq
  obtain ⟨hk, hno⟩ := okVar_spec hok
  have easy : swapsWith value (some (.Name x px)) pos.line E = pure false → wpAny (model prog w) A (exec (.Assign [.Name x px] value pos) E) Q Err s := fun hs => by
    refine wpAny_Assign_Name (ev_sound X n rm _ _ hd s _ _ I.ev fun v s₁ k1 r1 => ?_) hs
    refine (I.kp k1).store hk hno r1 fun s' m' cm' ks hp I' => hq _ _ (Ends.of_kp k1 ⟨mine, m', cm', I', ks.more (fun a ha => nomatch ha), I'.dmPlace hp, fun a ha => .inl ha, rfl⟩)
  by_cases hc : ∃ elt gens scope p, value = .ListComp elt gens scope p
  · obtain ⟨elt, gens, scope, p, rfl⟩ := hc
    obtain ⟨b, hb⟩ : ∃ b, swapsWith (.ListComp elt gens scope p) (some (.Name x px)) pos.line E = pure b := ⟨_, rfl⟩
    cases b with
    | false => exact easy hb
    | true =>
      have hform : ∃ y py iter ifs, gens = [⟨.Name y py, iter, ifs, 0⟩] := by
        cases n with
        | zero => cases hd
        | succ n =>
          replace hd : evW fns Φ (ev fns Φ n) E.scope.names (shρ ρ) (we (.ListComp elt gens scope p)) = some d := hd
          generalize we (.ListComp elt gens scope p) = v at hd
          cases v with
          | comp => exact ⟨_, _, _, _, rfl⟩
          | no => cases hd
      obtain ⟨y, py, iter, ifs, rfl⟩ := hform
      rw [exec_Assign_Name_used _ _ _ _ hb]
      refine wpAny_bind (wpAny_standAt (wpAny_bind ?_))
      show wpAny _ A (do let _ ← comprehension (.ListComp elt [⟨.Name y py, iter, ifs, 0⟩] scope p) scope E _ (newList []) false (eval iter E) (some (assign (.Name x px) E))) _ _ s
      obtain ⟨cl, hcl, c1, c3, hfold, hwp⟩ := comp_pre X rm (Err := Err) (RR := fun acc C => compPost (model prog w) A Err (some (assign (.Name x px) E)) (fun _ s' => Q .next s') acc C) hd I.ev (fun Da C s' ks r hm hC hDC => by
        obtain ⟨mc, hmc⟩ := hm
        show wpAny _ A (assign (.Name x px) E (.ref Da)) _ Err s'
        refine wpAny_assign_Name ((I.kp ks).store hk hno r fun s'' m'' cm'' ks'' hp I'' => ?_)
        obtain ⟨a, hsa, hpl⟩ := id hp
        have neL : E.locals ≠ C := by
          rintro rfl
          obtain ⟨o, _, _, ho, _⟩ := I.ns
          rw [hC] at ho; cases ho
        have neC : ∀ z c, E.cells.lookup z = some c → c ≠ C := by
          rintro z c hz rfl
          obtain ⟨o, ho, _⟩ := I.cells z c hz
          rw [hC] at ho; cases ho
        have haC : C ≠ a := by
          rcases hpl with rfl | ⟨z, hz⟩
          · exact Ne.symm neL
          · exact Ne.symm (neC z a hz)
        have hmc2 : s''.heap.Ns C mc := hmc.sameBut hsa haC
        refine ⟨mc, hmc2, fun h' hs' => ?_⟩
        have kd := kpS_dict hs' (ns_data hmc2)
        have neM : ∀ (b : Addr) vs, s''.heap.PlainList b vs → b ≠ C := by
          rintro b vs ⟨nn, e⟩ rfl
          rcases ns_data hmc2 _ e with ⟨es, n, q⟩ | ⟨v, q⟩ <;> cases q
        have C0 : s₀.heap.get? C = none := get_none_mono I.k0.heap hC
        have I3 : SV h₁ s₀ own₀ E mine (upd ρ x (.sh d)) m'' cm'' { s'' with heap := h' } := I''.but' C0 (fun own => kd.toR fun b hb => nomatch hb) neL neC neM hs'.extBut rfl (.refl _)
        refine hq _ _ ⟨mine, m'', cm'', I3, ((kpS_of ks.heap []).trans (ks''.trans kd fun a ha => nomatch ha) fun a ha => nomatch ha).more (fun a ha => nomatch ha), fun b o e => ?_, fun a ha => .inl ha, rfl⟩
        obtain ⟨o', e'⟩ := I''.dmPlace hp b o (ks.heap b o e)
        exact ⟨o', hs'.extBut b o' (fun q => by subst q; rw [hC] at e; cases e) e'⟩)
      refine wpAny_bind (wpAny_mono (wpAny_comprehension_free (use := some (assign (.Name x px) E)) (Q := fun _ s' => Q .next s') rfl hfold hcl c1 c3 hwp) (fun _ s' hq => wpAny_pure (wpAny_pure hq)) fun _ _ e => e)
  · refine easy (swaps_plain (fun a b c d e => hc ⟨a, b, c, d, e⟩) (fun a b c d' e => ?_) (fun a b c d' e' e => ?_))
    · subst e; cases n <;> cases hd
    · subst e; cases n <;> cases hd
end
end Mine
namespace Mine

section
variable {prog : Program} {w : World} {h₁ : Heap} {k : Nat} {fns : List Str} {Φ : Str → List D → Option D} {A : Around} {s₀ : Shared} {own₀ : List Addr} {E : Env} {mine : List (Str × Addr)} {ρ : Str → Option V} {m cm : Str → Option Value} {s : Shared}
  {Err : Value → Shared → Prop}

theorem load_ow (I : SV h₁ s₀ own₀ E mine ρ m cm s) {x : Str} {ds : List D} {Q : Value → Shared → Prop} (e : ρ x = some (.ow ds))
    (h : ∀ a vs, valOf E m cm x = some (.ref a) → (x, a) ∈ mine → s.heap.PlainList a vs → RDs (ownOf own₀ mine) s.heap vs.toList ds → Q (.ref a) s) : wpAny (model prog w) A (loadName E x) Q Err s := by
  obtain ⟨a, vs, hv, hm, hp, r⟩ := I.ow x ds e
  have hq := h a vs hv hm hp r
  unfold valOf at hv
  split at hv
  · rename_i hk; exact wpAny_loadName_local I.kind hk I.ns hv hq
  · rename_i hk
    obtain ⟨c, hc⟩ := I.hasc x hk
    exact wpAny_loadName_cell I.kind hk hc (hv ▸ I.cells x c hc) hq
  · cases hv

/-- a new owned list, stored -/
theorem SV.newOw (I : SV h₁ s₀ own₀ E mine ρ m cm s) {s₂ : Shared} {x : Str} {a : Addr} {vs : Array Value} {ds : List D} {Q : Flow → Shared → Prop} (hok : okVar E.scope.names ρ x = true)
    (k : Kp s s₂) (ha : s.heap.get? a = none) (hp : s₂.heap.PlainList a vs) (r : RDs (ownOf own₀ ((x, a) :: mine)) s₂.heap vs.toList ds)
    (hq : ∀ fl s', Ends h₁ s₀ own₀ E mine s .next (upd ρ x (.ow ds)) fl s' → Q fl s') : wpAny (model prog w) A (storeName E x (.ref a)) (fun _ => Q .next) Err s₂ := by
  obtain ⟨hk, hno⟩ := okVar_spec hok
  refine I.storeOw hk hno k ha hp r fun s' m' cm' ks hpl I' => hq _ _ ⟨_, m', cm', I', ((kpS_of k.heap []).trans ks fun a ha => nomatch ha).more (fun a ha => nomatch ha), (Dm.of k.heap).trans (I'.dmPlace hpl), fun b hb => ?_, rfl⟩
  rcases List.mem_cons.mp hb with rfl | hb
  · exact .inr ha
  · exact .inl hb

theorem assign_empty {x : Str} {px pl pos : Pos} (hok : okVar E.scope.names ρ x = true) : XS prog w h₁ s₀ own₀ E A ρ .next (upd ρ x (.ow [])) (exec (.Assign [.Name x px] (.List [] pl) pos) E) := by
  intro mine m cm s Q Err I hq
  refine wpAny_Assign_Name (wpAny_List (wpAny_items_nil ⟨by simp, ?_⟩))
  exact I.newOw hok .push' (get_none_of_ge (Nat.le_refl _)) (vs := #[]) ⟨0, Heap.get?_push_size _ rfl⟩ .nil hq

theorem assign_list (X : Cx prog w h₁ k fns Φ) {n : Nat} (rm : Rm A k) {x f y : Str} {px pf py pc pos : Pos} {ds : List D} (hok : okVar E.scope.names ρ x = true) (hf : f = Str.ofString "list") (hn : E.scope.names.lookup f = some .globalImplicit)
    (hy : ev fns Φ n E.scope.names (shρ ρ) (.Name y py) = some (.lst ds)) (hlen : ds.length ≤ 10000) :
    XS prog w h₁ s₀ own₀ E A ρ .next (upd ρ x (.ow ds)) (exec (.Assign [.Name x px] (.Call (.Name f pf) [.Name y py] [] pc) pos) E) := by
  intro mine m cm s Q Err I hq
  subst hf
  refine wpAny_Assign_Name (wpAny_Call_Name_kw (name_glob I.kind hn (by decide) ?_))
  obtain ⟨mg, mb, hg, hmg, hgb, hmb⟩ := X.bi "list" (by simp [bnames])
  refine Calls.loadGlobal_builtin (mg := mg) (mb := mb) (by rw [I.globals]; exact hg.keeps I.base') hmg (by rw [I.builtins]; exact hgb.keeps I.base') hmb ?_
  refine PyProof.Rows.callWith_type rfl (Calls.evalArgs_plain (wpAny_items_cons (ev_sound X n rm _ _ hy s _ _ I.ev fun v s₁ k1 r1 => wpAny_items_nil ?_)))
  cases r1 with
  | @lst a1 vs1 _ hp ho r =>
    obtain ⟨nn, hob⟩ := hp
    have hl := r.length
    simp only [Array.length_toList] at hl
    have hsz' : vs1.size ≤ sizeLine := by rw [sizeLine_eq]; omega
    refine call_list_seq (items := vs1) (n := nn) (hsz := hsz') a1 (.inl rfl) hob rfl rfl (fun h' c' kh hnew => ?_)
    have kk : Kp s { s₁ with heap := h' } := k1.trans ⟨kh, rfl, .refl _⟩
    have hsz : s₁.heap.get? s₁.heap.objs.size = none := get_none_of_ge (Nat.le_refl _)
    refine I.newOw hok kk (get_none_mono k1.heap hsz) (vs := _) ⟨c', hnew⟩ ?_ hq
    refine (RDs.sub (fun b hb ⟨o, e⟩ => ?_) r).keeps kh
    simp only [ownOf, List.map_cons, List.mem_append, List.mem_cons] at hb ⊢
    rcases hb with hb | rfl | hb
    · exact .inl hb
    · rw [hsz] at e; cases e
    · exact .inr hb

theorem assign_tuple (X : Cx prog w h₁ k fns Φ) {n : Nat} (rm : Rm A k) {es : List Expr} {kk : Nat} {tp pos cp fp : Pos} {f : Str} {args : List Expr} {kw : List Keyword} {ds : List D} {ρ' : Str → Option V}
    (hd : ev fns Φ n E.scope.names (shρ ρ) (.Call (.Name f fp) args kw cp) = some (.tup ds)) (ha : asgNames E.scope.names es ds ρ = some ρ') :
    XS prog w h₁ s₀ own₀ E A ρ .next ρ' (exec (.Assign [.Tuple es kk tp] (.Call (.Name f fp) args kw cp) pos) E) := by
  intro mine m cm s Q Err I hq
  refine Assign_Tuple (ev_sound X n rm _ _ hd s _ _ I.ev fun v s₁ k1 r1 => ?_) (by rfl) (by rfl)
  cases r1 with
  | tup ht r =>
    obtain ⟨h1, h2⟩ := assignEach_names (E := E) ha
    have hl := r.length
    refine wpAny_assign_Tuple rm.hh ht (by rw [h1, ← hl]; simp) h2 fun h' hx => ?_
    have kh : ∀ b o, s₁.heap.get? b = some o → h'.get? b = some o := fun b o e => hx b o (fun q => by subst q; rw [get_none_of_ge (Nat.le_refl _)] at e; cases e) e
    have k2 : Kp s₁ { s₁ with heap := h' } := ⟨kh, rfl, .refl _⟩
    exact asgNames_sound (I.kp (k1.trans k2)) ha (r.keeps kh) fun s' m' cm' I' ks dm => hq _ _ (Ends.of_kp (k1.trans k2) ⟨mine, m', cm', I', ks.more (fun a ha => nomatch ha), dm, fun a ha => .inl ha, rfl⟩)

theorem shρ_ow {ρ : Str → Option V} {x : Str} {ds ds' : List D} (h : ρ x = some (.ow ds)) : shρ (upd ρ x (.ow ds')) = shρ ρ := by
  funext y
  unfold shρ upd
  by_cases q : y = x
  · subst q; simp [h]
  · simp [q]

theorem aug_sound (X : Cx prog w h₁ k fns Φ) {n : Nat} (rm : Rm A k) {x : Str} {px pos : Pos} {op : Operator} {value : Expr} {a b d : D} (hok : okVar E.scope.names ρ x = true) (ha : shρ ρ x = some a) (hb : ev fns Φ n E.scope.names (shρ ρ) value = some b)
    (hd : inpD op a b = some d) : XS prog w h₁ s₀ own₀ E A ρ .next (upd ρ x (.sh d)) (exec (.AugAssign (.Name x px) op value pos) E) := by
  intro mine m cm s Q Err I hq
  obtain ⟨hk, hno⟩ := okVar_spec hok
  refine wpAny_AugAssign_Name (load_var I.ev ha fun v r => ev_sound X n rm _ _ hb s _ _ I.ev fun u s₁ k1 r1 => ?_)
  have fin : ∀ v', RD (ownOf own₀ mine) s₁.heap v' d → wpAny (model prog w) A (storeName E x v') (fun _ => Q .next) Err { s₁ with toks := s₁.toks + 1 } := fun v' r' => by
    have k2 : Kp s { s₁ with toks := s₁.toks + 1 } := k1.trans .tk
    exact (I.kp k2).store hk hno r' fun s' m' cm' ks hp I' => hq _ _ (Ends.of_kp k2 ⟨mine, m', cm', I', ks.more (fun a ha => nomatch ha), I'.dmPlace hp, fun a ha => .inl ha, rfl⟩)
  unfold inpD at hd
  split at hd
  · cases hd; cases r; cases r1; exact P.iadd_int (fin _ (.int _ _))
  · cases hd; cases r; cases r1; exact P.isub_int (fin _ (.int _ _))
  · cases hd

theorem return_sound (X : Cx prog w h₁ k fns Φ) {n : Nat} (rm : Rm A k) {e : Expr} {pos : Pos} {d : D} (hd : ev fns Φ n E.scope.names (shρ (freeze ρ)) e = some d) : XS prog w h₁ s₀ own₀ E A ρ (.ret d) (freeze ρ) (exec (.Return (some e) pos) E) := by
  intro mine m cm s Q Err I hq
  refine wpAny_Return_some (ev_sound X n rm _ _ hd s _ _ I.freeze.ev fun v s₁ k1 r1 => hq _ _ ⟨[], m, cm, I.freeze.kp k1, (kpS_of k1.heap _), .of k1.heap, fun a ha => (nomatch ha), v, rfl, ?_⟩)
  simpa [ownOf] using r1

/-- the frame behind the growth of an owned list, as an end -/
theorem SV.grown (I : SV h₁ s₀ own₀ E mine ρ m cm s) {s' : Shared} {x : Str} {a : Addr} {ds ds' : List D} {vs' : Array Value} (hx : ρ x = some (.ow ds)) (hm : (x, a) ∈ mine) (hv : valOf E m cm x = some (.ref a)) (hs : Heap.SameBut a s.heap s'.heap)
    (hos : s'.os = s.os) (hg : s'.gens = s.gens) (hp : s'.heap.PlainList a vs') (r : RDs (ownOf own₀ mine) s.heap vs'.toList ds') : Ends h₁ s₀ own₀ E mine s .next (upd ρ x (.ow ds')) .next s' := by
  refine ⟨mine, m, cm, I.grow hx hm hv hs hos hg hp r, fun b o e hb _ _ => hs.extBut b o (fun q => ?_) e, .but hs.extBut (let ⟨n, e⟩ := hp; ⟨_, e⟩), fun a ha => .inl ha, rfl⟩
  subst q
  exact hb (List.mem_map.mpr ⟨_, hm, rfl⟩)

theorem inter_false (hk : E.scope.kind = .function) : interactive E = false := by unfold interactive; rw [hk]; rfl

theorem append_sound (X : Cx prog w h₁ k fns Φ) {n : Nat} (rm : Rm A k) {x : Str} {px apos cp pos : Pos} {e : Expr} {xs : List D} {d : D} (hl : (apos.endLine == cp.line) = true) (hdb : (x == ("__debug__" : Str)) = false) (hn : notStar e = true)
    (hx : ρ x = some (.ow xs)) (hd : ev fns Φ n E.scope.names (shρ ρ) e = some d) (hlen : xs.length ≤ 10000) :
    XS prog w h₁ s₀ own₀ E A ρ .next (upd ρ x (.ow (xs ++ [d]))) (exec (.Expr (.Call (.Attribute (.Name x px) (Str.ofString "append") apos) [e] [] cp) pos) E) := by
  intro mine m cm s Q Err I hq
  refine wpAny_Expr (Call_method1 rfl (by rw [starEach_plain hn]; rfl) hl (wpAny_Name (load_ow I hx fun a vs hv hm hp r => ?_) hdb)) (inter_false I.kind) (by rfl)
  obtain ⟨nn, hob⟩ := id hp
  refine ⟨"list", _, F.plainAttrs_list, F.slot_list_append, F.type_list_append, hp.isList.typeIs, (fun a e => by cases e; exact ⟨_, hob, rfl⟩), ?_⟩
  refine Calls.callWith_builtin rfl (Calls.evalArgs_plain (Calls.spliced_cons (ev_sound X n rm _ _ hd _ _ _ I.ev fun v s₁ k1 r1 => Calls.spliced_nil ?_)))
  have hlv := r.length
  simp only [Array.length_toList] at hlv
  refine wpAny_list_append_plain (hp.at fun o e => k1.heap _ o e) (fun h' hp' hs' => ?_) (by rw [sizeLine_eq]; omega)
  refine hq _ _ (Ends.of_kp k1 ((I.kp k1).grown hx hm hv hs' rfl rfl hp' ?_))
  exact RDs.mono ((r.keeps k1.heap).append (.cons r1 .nil)) (by simp) rfl

theorem extend_sound (X : Cx prog w h₁ k fns Φ) {n : Nat} (rm : Rm A k) {x : Str} {px apos cp pos : Pos} {e : Expr} {xs ys : List D} (hl : (apos.endLine == cp.line) = true) (hdb : (x == ("__debug__" : Str)) = false) (hn : notStar e = true)
    (hx : ρ x = some (.ow xs)) (hd : ev fns Φ n E.scope.names (shρ ρ) e = some (.lst ys)) (hlen : xs.length ≤ 10000) (hlen2 : ys.length ≤ 10000) :
    XS prog w h₁ s₀ own₀ E A ρ .next (upd ρ x (.ow (xs ++ ys))) (exec (.Expr (.Call (.Attribute (.Name x px) (Str.ofString "extend") apos) [e] [] cp) pos) E) := by
  intro mine m cm s Q Err I hq
  refine wpAny_Expr (Call_method1 rfl (by rw [starEach_plain hn]; rfl) hl (wpAny_Name (load_ow I hx fun a vs hv hm hp r => ?_) hdb)) (inter_false I.kind) (by rfl)
  obtain ⟨nn, hob⟩ := id hp
  refine ⟨"list", _, F.plainAttrs_list, F.slot_list_extend, F.type_list_extend, hp.isList.typeIs, (fun a e => by cases e; exact ⟨_, hob, rfl⟩), ?_⟩
  refine Calls.callWith_builtin rfl (Calls.evalArgs_plain (Calls.spliced_cons (ev_sound X n rm _ _ hd _ _ _ I.ev fun v s₁ k1 r1 => Calls.spliced_nil ?_)))
  have hlv := r.length
  simp only [Array.length_toList] at hlv
  cases r1 with
  | lst hp2 ho2 r2 =>
    obtain ⟨n2, hob2⟩ := id hp2
    have hlv2 := r2.length
    simp only [Array.length_toList] at hlv2
    have hob1 := k1.heap _ _ hob
    refine call_meets F.slot_list_extend ⟨_, hob1, rfl⟩ F.entry_list_extend (F.args_list_extend_2 _ _) (AutoSeq1.list_extend_list_list_0 _ _ _ _ _ _ ?_ (by rw [sizeLine_eq]; omega) (by rw [sizeLine_eq]; omega)) ⟨hob1, hob2, ?_⟩
    · simp [Builtin.List.listTooLong]; rw [sizeLine_eq]; omega
    · refine hq _ _ (Ends.of_kp k1 ((I.kp k1).grown (vs' := vs ++ _) hx hm hv (Heap.SameBut.update ..) rfl rfl ⟨_, Heap.get?_update_self _ hob1 rfl⟩ ?_))
      exact RDs.mono ((r.keeps k1.heap).append r2) (by simp) rfl
end
end Mine
namespace Mine

theorem erase_last (ws : Array Value) : (ws.eraseIdxIfInBounds (ws.size - 1)).toList = ws.toList.take (ws.toList.length - 1) := by
  unfold Array.eraseIdxIfInBounds
  split
  · rw [Array.toList_eraseIdx, ← List.dropLast_eq_take]
    rw [List.eraseIdx_eq_take_drop_succ]
    rw [List.dropLast_eq_take, List.drop_eq_nil_of_le (by simp; omega)]
    simp
  · have : ws.size = 0 := by omega
    have : ws.toList = [] := by simpa using this
    rw [this]; rfl

section
variable {prog : Program} {w : World} {h₁ : Heap} {k : Nat} {fns : List Str} {Φ : Str → List D → Option D} {A : Around} {s₀ : Shared} {own₀ : List Addr} {E : Env} {mine : List (Str × Addr)} {ρ : Str → Option V} {m cm : Str → Option Value} {s : Shared}
  {Err : Value → Shared → Prop}

theorem appendPop_sound (X : Cx prog w h₁ k fns Φ) {n : Nat} (rm : Rm A k) {x y : Str} {px apos cp pos py bpos bcp tp : Pos} {tk : Nat} {e : Expr} {xs ys : List D} {t d : D} (hl : (apos.endLine == cp.line) = true) (hl2 : (bpos.endLine == bcp.line) = true)
    (hxy : x ≠ y) (hdb : (x == ("__debug__" : Str)) = false) (hdb2 : (y == ("__debug__" : Str)) = false) (hn : notStar e = true)
    (hx : ρ x = some (.ow xs)) (hy : ρ y = some (.ow ys)) (hd : ev fns Φ n E.scope.names (shρ ρ) e = some d) (ht : ys.getLast? = some t) (hlen : xs.length ≤ 10000) (hlen2 : ys.length ≤ 10000) :
    XS prog w h₁ s₀ own₀ E A ρ .next (upd (upd ρ y (.ow ys.dropLast)) x (.ow (xs ++ [.tup [t, d]])))
      (exec (.Expr (.Call (.Attribute (.Name x px) (Str.ofString "append") apos) [.Tuple [.Call (.Attribute (.Name y py) (Str.ofString "pop") bpos) [] [] bcp, e] tk tp] [] cp) pos) E) := by
  intro mine m cm s Q Err I hq
  refine wpAny_Expr (Call_method1 rfl (by rfl) hl (wpAny_Name (load_ow I hx fun a vs hv hm hp r => ?_) hdb)) (inter_false I.kind) (by rfl)
  obtain ⟨nn, hob⟩ := id hp
  refine ⟨"list", _, F.plainAttrs_list, F.slot_list_append, F.type_list_append, hp.isList.typeIs, (fun a e => by cases e; exact ⟨_, hob, rfl⟩), ?_⟩
  refine Calls.callWith_builtin rfl (Calls.evalArgs_plain (Calls.spliced_cons (wpAny_Tuple (wpAny_items_cons (Call_method0 rfl hl2 (wpAny_Name (load_ow I hy fun b ws hv2 hm2 hp2 r2 => ?_) hdb2)) (by rfl)))))
  obtain ⟨n2, hob2⟩ := id hp2
  refine ⟨"list", _, F.plainAttrs_list, F.slot_list_pop, F.type_list_pop, hp2.isList.typeIs, (fun a e => by cases e; exact ⟨_, hob2, rfl⟩), ?_⟩
  have hlv := r.length
  have hlv2 := r2.length
  simp only [Array.length_toList] at hlv hlv2
  rw [List.getLast?_eq_getElem?] at ht
  obtain ⟨v, hv3, rv⟩ := r2.get ht
  refine P.pop_list (n := n2) hob2 (y := v) (by rw [← Array.getElem?_toList, hlv2]; exact hv3) ?_ (by rw [sizeLine_eq]; omega)
  have hs1 : Heap.SameBut b s.heap (s.heap.update b (Obj.mapSeq fun xs => xs.eraseIdxIfInBounds (ws.size - 1))) := Heap.SameBut.update ..
  generalize hh1 : s.heap.update b (Obj.mapSeq fun xs => xs.eraseIdxIfInBounds (ws.size - 1)) = H1 at hs1 ⊢
  have hp3 : H1.PlainList b (ws.eraseIdxIfInBounds (ws.size - 1)) := ⟨_, by rw [← hh1]; exact Heap.get?_update_self _ hob2 rfl⟩
  have r3 : RDs (ownOf own₀ mine) s.heap (ws.eraseIdxIfInBounds (ws.size - 1)).toList ys.dropLast := by
    rw [erase_last, List.dropLast_eq_take, ← r2.length]; exact r2.take _
  have I1 := I.grow (s' := { s with heap := H1 }) hy hm2 hv2 hs1 rfl rfl hp3 r3
  have E1 := I.grown (s' := { s with heap := H1 }) hy hm2 hv2 hs1 rfl rfl hp3 r3
  have rv1 : RD (ownOf own₀ mine) H1 v t := by
    refine rv.kps (X := [b]) (fun c o e hc _ _ => hs1.extBut c o (by simpa using hc) e) fun c hc => ?_
    have : c = b := by simpa using hc
    subst this
    exact I.mineX _ (List.mem_map.mpr ⟨_, hm2, rfl⟩)
  have hd1 : ev fns Φ n E.scope.names (shρ (upd ρ y (.ow ys.dropLast))) e = some d := by rw [shρ_ow hy]; exact hd
  refine wpAny_items_cons (ev_sound X n rm _ _ hd1 _ _ _ I1.ev fun u s₂ k2 ru => wpAny_items_nil ⟨by rw [sizeLine_eq]; simp, Calls.spliced_nil ?_⟩) (starEach_plain hn [] E)
  have k3 : Kp { s with heap := H1 } { s₂ with heap := s₂.heap.push { cls := .type "tuple", data := .seq [v, u].toArray } } := k2.trans .push'
  have I3 := I1.kp k3
  have hx' : upd ρ y (.ow ys.dropLast) x = some (.ow xs) := by unfold upd; rw [if_neg hxy]; exact hx
  obtain ⟨a', vs', hv', hm', hp', r'⟩ := I3.ow x xs hx'
  rw [hv] at hv'; cases hv'
  have hlv' := r'.length
  simp only [Array.length_toList] at hlv'
  refine wpAny_list_append_plain hp' (fun h' hp'' hs' => ?_) (by rw [sizeLine_eq]; omega)
  refine hq _ _ ?_
  have E3 := I3.grown (s' := { s₂ with heap := h' }) hx' hm hv hs' rfl rfl hp'' (ds' := xs ++ [.tup [t, d]]) ?_
  · obtain ⟨_, _, _, _, ks1, dm1, _, _⟩ := E1
    exact Ends.trans ks1 dm1 (fun a ha => .inl ha) (Ends.of_kp k3 E3)
  · refine RDs.mono (r'.append (.cons (.tup ⟨_, Heap.get?_push_size _ rfl, rfl, 0, rfl⟩ ?_) .nil)) (by simp) rfl
    exact RDs.mono (.cons (rv1.keeps k3.heap) (.cons (ru.keeps fun b o e => Heap.get?_push_of_some _ e) .nil)) (by simp) rfl

theorem ex0_sound (X : Cx prog w h₁ k fns Φ) {muts : List Str} {n : Nat} (rm : Rm A k) {st : Stmt} {r : FlowD} {ρ' : Str → Option V} (h : ex0 fns Φ muts n E.scope.names ρ st = some (r, ρ')) : XS prog w h₁ s₀ own₀ E A ρ r ρ' (exec st E) := by
  unfold ex0 at h
  generalize w0 st = v at h
  cases v <;> dsimp only [ex0W] at h
  · split at h
    · rename_i hc; cases h; exact assign_empty hc.1
    · cases h
  · split at h
    · split at h
      · rename_i hc
        split at h
        · rename_i ds hds
          split at h
          · rename_i hlen; cases h; exact assign_list X rm hc.1 hc.2.1 hc.2.2.1 hds hlen
          · cases h
        · cases h
      · cases h
    · split at h
      · rename_i hc
        split at h
        · rename_i d hd; cases h; exact assign_plain X rm hc hd
        · cases h
      · cases h
  · split at h
    · rename_i hc
      split at h
      · rename_i d hd; cases h; exact assign_plain X rm hc hd
      · cases h
    · cases h
  · split at h
    · rename_i ds hd
      split at h
      · rename_i ρ₁ ha; cases h; exact assign_tuple X rm hd ha
      · cases h
    · cases h
  · split at h
    · rename_i hc
      split at h
      · rename_i a b ha hb
        split at h
        · rename_i d hd; cases h; exact aug_sound X rm hc ha hb hd
        · cases h
      · cases h
    · cases h
  · split at h
    · rename_i d hd; cases h; exact return_sound X rm hd
    · cases h
  · split at h
    · rename_i hc
      obtain ⟨rfl, rfl, hl, hl2, hxy, hdx, hdy, hn⟩ := hc
      split at h
      · rename_i xs ys d hx hy hd
        split at h
        · rename_i t ht
          split at h
          · rename_i hlen; cases h; exact appendPop_sound X rm hl hl2 hxy hdx hdy hn hx hy hd ht hlen.1 hlen.2
          · cases h
        · cases h
      · cases h
    · cases h
  · split at h
    · rename_i hc
      obtain ⟨hl, hdx, hn⟩ := hc
      split at h
      · rename_i xs d hx hd
        split at h
        · rename_i hlen
          split at h
          · rename_i ha; subst ha; cases h; exact append_sound X rm hl hdx hn hx hd hlen
          · split at h
            · rename_i ys
              split at h
              · rename_i ha; obtain ⟨rfl, hlen2⟩ := ha; cases h; exact extend_sound X rm hl hdx hn hx hd hlen hlen2
              · cases h
            · cases h
        · cases h
      · cases h
    · cases h
  · cases h
end
end Mine
namespace Mine

theorem IterAt.obj {own : List Addr} {It : Addr} {ds : List D} {i : Nat} {h : Heap} (x : IterAt own It ds i h) : ∀ o, h.get? It = some o → IterObj o := fun o e => by
  cases x with
  | lst a _ _ _ =>
    obtain ⟨o', ho', hc, hd⟩ := a
    rw [e] at ho'; cases ho'
    exact ⟨by simp [hc], _, hd⟩
  | rng a _ =>
    have a : h.get? It = _ := a
    rw [e] at a; cases a
    exact ⟨by simp, _, rfl⟩
theorem IterAt.shape {own : List Addr} {It : Addr} {ds : List D} {i : Nat} {h : Heap} (x : IterAt own It ds i h) : ∃ o n vs, h.get? It = some o ∧ o.cls = .type n ∧ o.data = .fields vs ∧ (n = "list_iterator" ∨ n = "range_iterator") := by
  cases x with
  | lst a _ _ _ =>
    obtain ⟨o', ho', hc, hd⟩ := a
    exact ⟨o', _, _, ho', hc, hd, .inl rfl⟩
  | rng a _ => exact ⟨_, _, _, a, rfl, rfl, .inr rfl⟩

section
variable {prog : Program} {w : World} {h₁ : Heap} {k : Nat} {fns : List Str} {Φ : Str → List D → Option D} {A : Around} {s₀ : Shared} {own₀ own : List Addr} {E : Env} {mine : List (Str × Addr)} {ρ : Str → Option V} {m cm : Str → Option Value} {s : Shared}
  {Err : Value → Shared → Prop}

theorem letGo_iter {t : Expr} {It : Addr} {v : Value} {ds : List D} {i : Nat} {Q : Unit → Shared → Prop} (x : IterAt own It ds i s.heap) (h : Q () s) : wpAny (model prog w) A (letOwnedTupleGo t (.ref It) v) Q Err s := by
  obtain ⟨o, n, vs, ho, hc, hd, hn⟩ := x.shape
  have go : ∀ a, wpAny (model prog w) A (do
      let o ← load It
      match o.cls, o.data with
      | .type n, .fields vs =>
        if ["enumerate", "zip", "dict_itemiterator", "dict_reverseitemiterator", "odict_iterator", "itertools.zip_longest", "itertools.pairwise"].contains n && vs[0]? == some (rawInt a) then
          rule "for.unpacks-the-owned-tuple"
          updateField It 0 .none
      | _, _ => pure ()) Q Err s := fun a => by
    refine wpAny_bind (wpAny_load ho ?_)
    rw [hc, hd]
    rcases hn with rfl | rfl
    · exact wpAny_pure h
    · exact wpAny_pure h
  unfold letOwnedTupleGo
  cases t <;> first | exact wpAny_pure h | (cases v <;> first | exact wpAny_pure h | exact go _)

theorem asgT_sound {t : Expr} {d : D} {v : Value} {ρ' : Str → Option V} {Q : Unit → Shared → Prop} (I : SV h₁ s₀ own₀ E mine ρ m cm s) (hh : A.handled = none) (e : asgT E.scope.names t d ρ = some ρ') (r : RD (ownOf own₀ mine) s.heap v d)
    (h : ∀ s' m' cm', SV h₁ s₀ own₀ E mine ρ' m' cm' s' → KpS [] s.heap s'.heap → Dm s.heap s'.heap → Q () s') : wpAny (model prog w) A (assign t E v) Q Err s := by
  unfold asgT at e
  split at e
  · exact wpAny_assign_Name (asgName_sound I e r fun s' m' cm' I' ks dm _ => h s' m' cm' I' ks dm)
  · cases r with
    | tup ht r =>
      obtain ⟨h1, h2⟩ := assignEach_names (E := E) e
      have hl := r.length
      refine wpAny_assign_Tuple hh ht (by rw [h1, ← hl]; simp) h2 fun h' hx => ?_
      have kh : ∀ b o, s.heap.get? b = some o → h'.get? b = some o := fun b o e => hx b o (fun q => by subst q; rw [get_none_of_ge (Nat.le_refl _)] at e; cases e) e
      have k2 : Kp s { s with heap := h' } := ⟨kh, rfl, .refl _⟩
      exact asgNames_sound (I.kp k2) e (r.keeps kh) fun s' m' cm' I' ks dm => h s' m' cm' I' ((kpS_of kh []).trans ks fun a ha => nomatch ha) ((Dm.of kh).trans dm)
  · cases e

theorem for_sound (X : Cx prog w h₁ k fns Φ) {n : Nat} (rm : Rm A k) {t iter : Expr} {body : List Stmt} {pos : Pos} {d : D} {ds : List D} {bodyf : (Str → Option V) → Option (FlowD × (Str → Option V))} {r : FlowD} {ρ' : Str → Option V}
    (hd : ev fns Φ n E.scope.names (shρ ρ) iter = some d) (hds : iterD d = some ds) (hbody : ∀ ρ r ρ', bodyf ρ = some (r, ρ') → XS prog w h₁ s₀ own₀ E A ρ r ρ' (execs body E))
    (h : forS (asgT E.scope.names t) bodyf ds ρ = some (r, ρ')) : XS prog w h₁ s₀ own₀ E A ρ r ρ' (exec (.For t iter body [] pos) E) := by
  intro mine m cm s Q Err I hq
  refine wpAny_For (ev_sound X n rm _ _ hd s _ _ I.ev fun v s₁ k1 r1 => iter_sound r1 hds fun s₂ k2 hnone hit => ?_) (folded_plain hd)
  generalize s₁.heap.objs.size = It at hnone hit ⊢
  have hIts : s.heap.get? It = none := get_none_mono k1.heap hnone
  have hI0 : s₀.heap.get? It = none := get_none_mono I.k0.heap hIts
  refine codeAny_forLoop_any (fun j s' => ∃ i mine' ρ₁ m' cm', j = ds.length - i ∧ i ≤ ds.length ∧ SV h₁ s₀ own₀ E mine' ρ₁ m' cm' s' ∧ IterAt (ownOf own₀ mine') It ds i s'.heap ∧ KpS (adr mine) s.heap s'.heap ∧ Dm s.heap s'.heap ∧
    (∀ a ∈ adr mine', a ∈ adr mine ∨ s.heap.get? a = none) ∧ forS (asgT E.scope.names t) bodyf (ds.drop i) ρ₁ = some (r, ρ')) ?_ ds.length
    ⟨0, mine, ρ, m, cm, rfl, Nat.zero_le _, I.kp (k1.trans k2), hit, kpS_of (k1.trans k2).heap _, .of (k1.trans k2).heap, fun a ha => .inl ha, h⟩
  rintro j s' ⟨i, mine', ρ₁, m', cm', rfl, hi, I', hit', ks, dm, hmn, hf⟩
  have step : ∀ h', Heap.ExtBut It s'.heap h' → KpS (adr mine) s.heap h' ∧ Dm s.heap h' := fun h' hx => ⟨fun b o e hb h1 h2 => hx b o (fun q => by subst q; rw [hIts] at e; cases e) (ks b o e hb h1 h2), fun b o e => by
    obtain ⟨o', e'⟩ := dm b o e
    exact ⟨o', hx b o' (fun q => by subst q; rw [hIts] at e; cases e) e'⟩⟩
  by_cases hlt : i < ds.length
  · refine next_item hit' (List.getElem?_eq_getElem hlt) fun v h' tk rv hit2 hs2 => ?_
    rw [List.drop_eq_getElem_cons hlt] at hf
    obtain ⟨ks2, dm2⟩ := step h' hs2.extBut
    have I2 : SV h₁ s₀ own₀ E mine' ρ₁ m' cm' { s' with heap := h', toks := tk } := I'.but hI0 hit'.obj hs2.extBut rfl (.refl _)
    refine letGo_iter hit2 ?_
    unfold forS at hf
    split at hf
    · rename_i ρ₂ ha
      refine asgT_sound I2 rm.hh ha rv fun s₃ m₃ cm₃ I₃ ks3 dm3 => ?_
      have hit3 : IterAt (ownOf own₀ mine') It ds (i + 1) s₃.heap := hit2.kps (X := []) ks3 fun b hb => nomatch hb
      have ks3' : KpS (adr mine) s.heap s₃.heap := ks2.trans ks3 fun a ha => nomatch ha
      have dm3' : Dm s.heap s₃.heap := dm2.trans dm3
      split at hf
      · rename_i ρ₃ hb
        refine hbody _ _ _ hb mine' m₃ cm₃ s₃ _ _ I₃ fun fl s₄ en => ?_
        obtain ⟨mine₄, m₄, cm₄, I₄, ks4, dm4, hm4, rfl⟩ := en
        refine ⟨ds.length - (i + 1), by omega, i + 1, mine₄, ρ₃, m₄, cm₄, rfl, hlt, I₄, ?_, ks3'.trans ks4 hmn, dm3'.trans dm4, fun a ha => ?_, hf⟩
        · have big : IterAt (ownOf own₀ mine' ++ ownOf own₀ mine₄) It ds (i + 1) s₃.heap := hit3.sub fun b hb ⟨o, e⟩ => by
            rcases List.mem_append.mp hb with hb | hb
            · exact hb
            · rcases List.mem_append.mp hb with hb | hb
              · exact List.mem_append_left _ hb
              · rcases hm4 b hb with q | q
                · exact List.mem_append_right _ q
                · rw [q] at e; cases e
          have big2 := big.kps ks4 fun b hb => ⟨List.mem_append_left _ (I₃.mineX b hb).1, (I₃.mineX b hb).2⟩
          exact big2.sub fun b hb _ => List.mem_append_right _ hb
        · rcases hm4 a ha with q | q
          · exact hmn a q
          · exact .inr (dm3'.none q)
      · rename_i rr ρ₃ hb
        cases hf
        refine hbody _ _ _ hb mine' m₃ cm₃ s₃ _ _ I₃ fun fl s₄ en => ?_
        have en2 := Ends.trans ks3' dm3' hmn en
        obtain ⟨mine₄, m₄, cm₄, I₄, ks4, dm4, hm4, vv, rfl, hrr⟩ := en
        exact hq _ _ en2
      · cases hf
    · cases hf
  · have hie : i = ds.length := by omega
    refine next_done rm.hh hit' hie fun h' hx => wpAny_execs_nil ?_
    rw [hie, List.drop_length] at hf
    cases hf
    obtain ⟨ks2, dm2⟩ := step h' hx
    exact hq _ _ ⟨mine', m', cm', I'.but hI0 hit'.obj hx rfl (.refl _), ks2, dm2, hmn, rfl⟩

theorem XS.seq {ρ₁ : Str → Option V} {r : FlowD} {ρ' : Str → Option V} {st : Stmt} {rest : List Stmt} (a : XS prog w h₁ s₀ own₀ E A ρ .next ρ₁ (exec st E)) (b : XS prog w h₁ s₀ own₀ E A ρ₁ r ρ' (execs rest E)) : XS prog w h₁ s₀ own₀ E A ρ r ρ' (execs (st :: rest) E) := by
  intro mine m cm s Q Err I hq
  refine wpAny_execs_cons (a mine m cm s _ _ I fun fl s' en => ?_)
  obtain ⟨mine', m', cm', I', ks, dm, hm, rfl⟩ := en
  exact b mine' m' cm' s' _ _ I' fun fl s'' en => hq _ _ (Ends.trans ks dm hm en)
theorem XS.stop {d : D} {ρ' : Str → Option V} {st : Stmt} {rest : List Stmt} (a : XS prog w h₁ s₀ own₀ E A ρ (.ret d) ρ' (exec st E)) : XS prog w h₁ s₀ own₀ E A ρ (.ret d) ρ' (execs (st :: rest) E) := by
  intro mine m cm s Q Err I hq
  refine wpAny_execs_cons (a mine m cm s _ _ I fun fl s' en => ?_)
  have := hq fl s' en
  obtain ⟨mine', m', cm', I', ks, dm, hm, v, rfl, hv⟩ := en
  exact this
theorem XS.frozen {r : FlowD} {ρ' : Str → Option V} {t : Sem Flow} (a : XS prog w h₁ s₀ own₀ E A (freeze ρ) r ρ' t) : XS prog w h₁ s₀ own₀ E A ρ r ρ' t := by
  intro mine m cm s Q Err I hq
  exact a [] m cm s _ _ I.freeze fun fl s' en => hq _ _ (Ends.trans (mine₁ := []) (kpS_of (fun _ _ e => e) _) (.of fun _ _ e => e) (fun a ha => nomatch ha) en)

theorem exS_sound (X : Cx prog w h₁ k fns Φ) {muts : List Str} (rm : Rm A k) : ∀ (n : Nat) (ρ : Str → Option V) (sts : List Stmt) (r : FlowD) (ρ' : Str → Option V), exS fns Φ muts E.scope.names n ρ sts = some (r, ρ') → XS prog w h₁ s₀ own₀ E A ρ r ρ' (execs sts E)
  | 0, _, _, _, _, h => by cases h
  | n + 1, ρ, [], r, ρ', h => by
    cases h
    intro mine m cm s Q Err I hq
    exact wpAny_execs_nil (hq _ _ ⟨mine, m, cm, I, kpS_of (fun _ _ e => e) _, .of fun _ _ e => e, fun a ha => .inl ha, rfl⟩)
  | n + 1, ρ, st :: rest, r, ρ', h => by
    unfold exS at h
    have one : ∀ r₁ ρ₁, (match st with
      | .If t body orelse _ => (match tst (ev fns Φ n E.scope.names (shρ ρ)) t with
        | some true => exS fns Φ muts E.scope.names n ρ body
        | some false => exS fns Φ muts E.scope.names n ρ orelse
        | Option.none => Option.none)
      | .For t iter body [] _ =>
        (match ev fns Φ n E.scope.names (shρ (if isOw ρ iter = true then freeze ρ else ρ)) iter with
        | some d => (match iterD d with
          | some ds => if ds.length ≤ 10000 then forS (asgT E.scope.names t) (fun ρ' => exS fns Φ muts E.scope.names n ρ' body) ds (if isOw ρ iter = true then freeze ρ else ρ) else Option.none
          | Option.none => Option.none)
        | Option.none => Option.none)
      | st => ex0 fns Φ muts n E.scope.names ρ st) = some (r₁, ρ₁) → XS prog w h₁ s₀ own₀ E A ρ r₁ ρ₁ (exec st E) := by
      intro r₁ ρ₁ h
      split at h
      · rename_i t body orelse pos
        have ih : ∀ e d, ev fns Φ n E.scope.names (shρ ρ) e = some d → ∀ own, ES prog w h₁ A own E (shρ ρ) e d := fun e d hd own => ev_sound X n rm e d hd
        split at h
        · rename_i ht
          intro mine m cm s Q Err I hq
          refine wpAny_If (tst_sound rm.zero (fun e d hd => ih e d hd _) ht s _ _ I.ev fun s₁ k1 => ?_)
          rw [if_pos rfl]
          exact exS_sound X rm n ρ _ r₁ ρ₁ h mine m cm s₁ _ _ (I.kp k1) fun fl s' en => hq _ _ (Ends.of_kp k1 en)
        · rename_i ht
          intro mine m cm s Q Err I hq
          refine wpAny_If (tst_sound rm.zero (fun e d hd => ih e d hd _) ht s _ _ I.ev fun s₁ k1 => ?_)
          rw [if_neg (by simp)]
          exact exS_sound X rm n ρ _ r₁ ρ₁ h mine m cm s₁ _ _ (I.kp k1) fun fl s' en => hq _ _ (Ends.of_kp k1 en)
        · cases h
      · split at h
        · rename_i d hd
          split at h
          · rename_i ds hds
            split at h
            · split at hd
              · rename_i ho
                rw [if_pos ho] at h
                exact XS.frozen (for_sound X rm hd hds (fun ρ r ρ' hb => exS_sound X rm n ρ _ r ρ' hb) h)
              · rename_i ho
                rw [if_neg ho] at h
                exact for_sound X rm hd hds (fun ρ r ρ' hb => exS_sound X rm n ρ _ r ρ' hb) h
            · cases h
          · cases h
        · cases h
      · exact ex0_sound X rm h
    split at h
    · rename_i ρ₁ h1
      exact XS.seq (one _ _ h1) (exS_sound X rm n ρ₁ rest r ρ' h)
    · rename_i d ρ₁ h1
      cases h
      exact XS.stop (one _ _ h1)
    · cases h
end
end Mine
namespace Mine

theorem cells_has : ∀ (names : List (Str × NameKind)) (n : Nat) (acc : List (Str × Addr)) (x : Str), (names.lookup x = some .cell ∨ ∃ c, acc.lookup x = some c) → ∃ c, (cellsFrom n names acc).lookup x = some c
  | [], n, acc, x, h => by
    rcases h with h | h
    · cases h
    · exact h
  | (nm, kd) :: r, n, acc, x, h => by
    unfold cellsFrom
    split
    · rename_i hk
      refine cells_has r (n + 1) _ x ?_
      cases hb : x == nm with
      | true => exact .inr ⟨n, by rw [List.lookup_cons, hb]⟩
      | false =>
        rw [List.lookup_cons, hb] at h
        exact h.imp id fun ⟨c, hc⟩ => ⟨c, by rw [List.lookup_cons, hb]; exact hc⟩
    · rename_i hk
      refine cells_has r n acc x ?_
      cases hb : x == nm with
      | true =>
        rw [List.lookup_cons, hb] at h
        rcases h with h | h
        · cases h; simp at hk
        · exact .inr h
      | false => rw [List.lookup_cons, hb] at h; exact h

noncomputable def bindρ : List Str → List D → (Str → Option V) → Str → Option V
  | p :: ps, d :: ds, ρ => bindρ ps ds (upd ρ p (.sh d))
  | _, _, ρ => ρ

theorem bind_vals {E : Env} {own : List Addr} {h : Heap} : ∀ (ps : List Str) (vs : List Value) (ds : List D) (m cm : Str → Option Value) (ρ : Str → Option V), RDs own h vs ds → (∀ p ∈ ps, E.kindOf p = some .local ∨ E.kindOf p = some .cell) →
    (∀ x d, ρ x = some (.sh d) → ∃ v, valOf E m cm x = some v ∧ RD own h v d) → (∀ x ds, ρ x ≠ some (.ow ds)) →
    (∀ x d, bindρ ps ds ρ x = some (.sh d) → ∃ v, valOf E (bindL E.kindOf (ps.zip vs) m) (bindC E.kindOf (ps.zip vs) cm) x = some v ∧ RD own h v d) ∧ (∀ x ds', bindρ ps ds ρ x ≠ some (.ow ds'))
  | [], vs, ds, m, cm, ρ, r, hk, h1, h2 => ⟨h1, h2⟩
  | p :: ps, vs, ds, m, cm, ρ, r, hk, h1, h2 => by
    cases r with
    | nil => exact ⟨h1, h2⟩
    | @cons v vs d ds r rs =>
      have h2' : ∀ x ds', upd ρ p (.sh d) x ≠ some (.ow ds') := fun x ds' => by
        unfold upd; split
        · simp
        · exact h2 x ds'
      have hps : ∀ q ∈ ps, E.kindOf q = some .local ∨ E.kindOf q = some .cell := fun q hq => hk q (List.mem_cons_of_mem _ hq)
      show (∀ x d', bindρ ps ds (upd ρ p (.sh d)) x = some (.sh d') → ∃ v', valOf E (bindL E.kindOf ((p, v) :: ps.zip vs) m) (bindC E.kindOf ((p, v) :: ps.zip vs) cm) x = some v' ∧ RD own h v' d') ∧ _
      unfold bindL bindC
      rcases hk p List.mem_cons_self with hl | hl
      · rw [if_pos hl, if_pos hl]
        refine bind_vals ps vs ds _ _ _ rs hps (fun x d' e => ?_) h2'
        rw [valOf_store hl]
        unfold upd at e
        split at e
        · rename_i hx; cases e; rw [if_pos hx]; exact ⟨v, rfl, r⟩
        · rename_i hx; rw [if_neg hx]; exact h1 x d' e
      · have hnl : ¬ E.kindOf p = some .local := by rw [hl]; decide
        rw [if_neg hnl, if_neg hnl]
        refine bind_vals ps vs ds _ _ _ rs hps (fun x d' e => ?_) h2'
        rw [valOf_storeC hl]
        unfold upd at e
        split at e
        · rename_i hx; cases e; rw [if_pos hx]; exact ⟨v, rfl, r⟩
        · rename_i hx; rw [if_neg hx]; exact h1 x d' e

section
variable {prog : Program} {w : World} {h₁ : Heap} {k : Nat} {fns : List Str} {Φ : Str → List D → Option D}

/-- a def, called: what its body's run says -/
theorem def_sound (nolimit : h₁.NoLimit) {a : Addr} {o : Obj} {name : Str} {params : Arguments} {body : List Stmt} {scope : Scope} {pm code doc : Value} {ps : List Str}
    (ho : h₁.get? a = some o) (hd : o.data = .func (PySem.Calls.docDef name params body scope pm code doc)) (hc : h₁.CodeRec code name) (hps : ∀ p ∈ ps, scope.names.lookup p = some .local ∨ scope.names.lookup p = some .cell)
    (hk : scope.kind = .function) (hco : scope.isCoroutine = false) (hgen : scope.isGenerator = false)
    (hbind : ∀ vs : List Value, vs.length = ps.length → bindArgs (PySem.Calls.docDef name params body scope pm code doc) ⟨vs, []⟩ = pure (ps.zip vs))
    {A : Around} {own : List Addr} {s : Shared} {vs : List Value} {ds : List D} {d : D} {ρ' : Str → Option V} {Q : Value → Shared → Prop} {Err : Value → Shared → Prop} (rm : Rm A (k + 1)) (hb : ∀ b o, h₁.get? b = some o → s.heap.get? b = some o)
    (live : ∀ a ∈ own, ∃ o, s.heap.get? a = some o) (hlen : ds.length = ps.length)
    (hex : ∀ (A : Around) (s₀ : Shared) (E : Env), Rm A k → E.scope = scope → XS prog w h₁ s₀ own E A (bindρ ps ds fun _ => Option.none) (.ret d) ρ' (execs body E))
    (r : RDs own s.heap vs ds) (hq : ∀ v s', Kp s s' → RD own s'.heap v d → Q v s') : wpAny (model prog w) A (call (.ref a) vs) Q Err s := by
  have hl := r.length
  refine wpAny_call (codeAny_call_cells (by have := rm.dp; show A.depth < 1000; omega) (hb _ _ ho) hd (nolimit.keeps hb) (hc.keeps hb) rfl (hbind vs (by omega)) rfl (fun x hx => ?_) (fun s₁ C => ?_) hco hgen hk)
  · have hx1 : x.1 ∈ ps := (List.of_mem_zip (a := x.1) (b := x.2) hx).1
    rcases hps _ hx1 with q | q
    · exact .inl q
    · obtain ⟨c, hc⟩ := cells_has scope.names (s.heap.objs.size + 1) [] x.1 (.inl q)
      exact .inr ⟨q, by show (List.lookup x.1 (cellsFrom (s.heap.objs.size + 1) scope.names [])).isSome = true; rw [hc]; rfl⟩
  · obtain ⟨b1, b2⟩ := bind_vals (E := callEnvC (PySem.Calls.docDef name params body scope pm code doc) s.heap.objs.size a) (own := own) (h := s₁.heap) ps vs ds (fun _ => none) (fun _ => none) (fun _ => Option.none) (r.keeps C.toInCall.keep) hps (fun x d e => by cases e) (fun x ds e => by cases e)
    obtain ⟨hh, tk, e1⟩ := C.toInCall.same
    refine hex (A.deeper (callEnvC (PySem.Calls.docDef name params body scope pm code doc) s.heap.objs.size a)) s (callEnvC (PySem.Calls.docDef name params body scope pm code doc) s.heap.objs.size a) ⟨rm.hh, ?_, ?_⟩ rfl [] _ _ s₁ _ _ {
      k0 := ⟨C.toInCall.keep, by rw [e1], by rw [e1]; exact .refl _⟩
      base := hb
      kind := hk
      globals := rfl
      builtins := rfl
      live₀ := live
      ns := C.toInCall.ns
      cells := C.cell
      hasc := fun x hx => cells_has scope.names _ [] x (.inl hx)
      apart := fun x y c hx hy => name_of_addr C.apart (mem_of_lookup hx) (mem_of_lookup hy)
      freshL := get_none_of_ge (Nat.le_refl _)
      freshC := fun x c hx => get_none_of_ge (Nat.le_of_lt (C.above x c (mem_of_lookup hx)))
      mlive := fun p hp => nomatch hp
      muniq := fun p hp => nomatch hp
      sh := fun x d e => let ⟨v, hv, rv⟩ := b1 x d e; ⟨v, hv, by simpa [ownOf] using rv⟩
      ow := fun x ds e => absurd e (b2 x ds) } fun fl s' en => ?_
    · have := rm.dp; show A.depth + 1 + k < 900; omega
    · have := rm.un; show A.units + 3 + 30 * k < 9000; omega
    · obtain ⟨mine', m', cm', I', _, _, _, v, rfl, rv⟩ := en
      exact hq v s' I'.k0 rv
end

/-- what a def's body gives, by the run -/
noncomputable def defD (fns : List Str) (Φ : Str → List D → Option D) (muts : List Str) (n : Nat) (names : List (Str × NameKind)) (ps : List Str) (body : List Stmt) (ds : List D) : Option D :=
  if ds.length = ps.length then (match exS fns Φ muts names n (bindρ ps ds fun _ => Option.none) body with | some (.ret d, _) => some d | _ => Option.none) else Option.none
theorem defD_spec {fns : List Str} {Φ : Str → List D → Option D} {muts : List Str} {n : Nat} {names : List (Str × NameKind)} {ps : List Str} {body : List Stmt} {ds : List D} {d : D} (h : defD fns Φ muts n names ps body ds = some d) :
    ds.length = ps.length ∧ ∃ ρ', exS fns Φ muts names n (bindρ ps ds fun _ => Option.none) body = some (.ret d, ρ') := by
  unfold defD at h
  split at h
  · rename_i hl
    split at h
    · rename_i d' ρ' he; cases h; exact ⟨hl, ρ', he⟩
    · cases h
  · cases h
end Mine
namespace Mine

section
variable {M : Model} {A : Around} {R : GenEnd} {Y : Protocol} {n : Nat} {s₀ : Shared} {c : Code} {fs : List Frame} {s : Shared} {env : Env}
  {K : Flow → Sem Fin} {H : Value → Sem Fin} {gd : Bool → Bool} {lv : List Value → List Value}

/-- what stands behind a loop that a def's body runs -/
noncomputable def ownK (env : Env) (K : Flow → Sem Fin) (H : Value → Sem Fin) (gd : Bool → Bool) (lv : List Value → List Value) : Result → Sem Fin := fun r =>
  ((match r with | .ok f => (.pure f : Sem Flow) | .error e => .raise e).onRaise fun (x : Value) => do
    if (← field x 1) == Value.none then unsupported "frame.own-activation:exception-without-traceback"
    setFlight x env.frame).wrap K H gd lv

theorem seg_For {target iter : Expr} {body orelse : List Stmt} {pos : Pos} (hs : ∀ x, foldedSetIterable iter env x = pure x)
    (h : wpAny M (A.over c fs) (eval iter env) (fun x s₁ => wpAny M (A.over c fs) (pyIter x) (fun it s₂ => ∀ p, Seg M A R Y n s₀ (.forLoop target it body orelse env) (M.den (.forLoop target it body orelse env))
      (.ret (ownK env K H gd lv) none (gd false) (lv []) c p [] :: fs) s₂) (fun x s' => Seg M A R Y n s₀ c (H x) fs s') s₁) (fun x s' => Seg M A R Y n s₀ c (H x) fs s') s) :
    Seg M A R Y n s₀ c ((exec (.For target iter body orelse pos) env).wrap K H gd lv) fs s := by
  rw [exec_For]
  refine seg_bind_wrap (wpAny_standAt ?_)
  refine seg_bind_wrap (wpAny_mono h (fun x s₁ h₁ => ?_) fun _ _ e => e)
  refine seg_bind_wrap (wpAny_of_eq (hs x) ?_)
  refine seg_bind_wrap (wpAny_standAt ?_)
  refine seg_bind_wrap (wpAny_holding (wpAny_mono h₁ (fun it s₂ h₂ => ?_) fun _ _ e => e))
  exact seg_call h₂

theorem seg_If {test : Expr} {body orelse : List Stmt} {pos : Pos}
    (h : wpAny M (A.over c fs) (isTrue test env (eval test env)) (fun b s₁ => if b = true then Seg M A R Y n s₀ c ((execs body env).wrap K H gd lv) fs s₁ else Seg M A R Y n s₀ c ((execs orelse env).wrap K H gd lv) fs s₁)
      (fun x s' => Seg M A R Y n s₀ c (H x) fs s') s) :
    Seg M A R Y n s₀ c ((exec (.If test body orelse pos) env).wrap K H gd lv) fs s := by
  rw [exec_If]
  refine seg_bind_wrap (wpAny_standAt ?_)
  refine seg_bind_wrap (wpAny_mono h (fun b s₁ h₁ => ?_) fun _ _ e => e)
  cases b with
  | true => exact h₁
  | false => exact h₁

/-- a statement that gives nothing out -/
theorem seg_plain {st : Stmt} (h : wpAny M (A.over c fs) (exec st env) (fun f s₁ => Seg M A R Y n s₀ c (K f) fs s₁) (fun x s' => Seg M A R Y n s₀ c (H x) fs s') s) :
    Seg M A R Y n s₀ c ((exec st env).wrap K H gd lv) fs s := seg_wrap h
end

section
variable {prog : Program} {w : World} {A : Around} {R : GenEnd} {Y : Protocol} {n : Nat} {s₀ : Shared} {fs : List Frame} {s : Shared} {env : Env}

noncomputable def forK (target : Expr) (it : Value) (body orelse : List Stmt) (env : Env) : Flow → Sem Fin := fun f => match f with
  | .next | .cont => .pure (.again (.forLoop target it body orelse env))
  | .brk => .pure (.done .next)
  | .ret v => .pure (.done (.ret v))
noncomputable def noteH (env : Env) : Value → Sem Fin := fun e => (do noteFrame e env; theTreesLotGoes e : Sem Unit).wrap (fun _ => .raise e) .raise id id

theorem seg_forLoop {target : Expr} {it : Value} {body orelse : List Stmt}
    (h : wpAny (model prog w) (A.over (.forLoop target it body orelse env) fs) (pyNext it) (fun r s₁ => match r with
      | none => Seg (model prog w) A R Y n s₀ (.block orelse env) ((model prog w).den (.block orelse env)) fs s₁
      | some v => wpAny (model prog w) (A.over (.forLoop target it body orelse env) fs) (letOwnedTupleGo target it v) (fun _ s₂ => wpAny (model prog w) (A.over (.forLoop target it body orelse env) fs) (assign target env v) (fun _ s₃ =>
          Seg (model prog w) A R Y n s₀ (.forLoop target it body orelse env) ((execs body env).wrap (forK target it body orelse env) (noteH env) id id) fs s₃)
            (fun x s' => Seg (model prog w) A R Y n s₀ (.forLoop target it body orelse env) (noteH env x) fs s') s₂)
            (fun x s' => Seg (model prog w) A R Y n s₀ (.forLoop target it body orelse env) (noteH env x) fs s') s₁)
      (fun x s' => Seg (model prog w) A R Y n s₀ (.forLoop target it body orelse env) (noteH env x) fs s') s) :
    Seg (model prog w) A R Y n s₀ (.forLoop target it body orelse env) ((model prog w).den (.forLoop target it body orelse env)) fs s := by
  have hH : (fun e => (do noteFrame e env; theTreesLotGoes e : Sem Unit).bind fun _ => Sem.raise e) = noteH env := by
    funext e
    exact Sem.bind_eq_wrap _ _
  show Seg _ A R Y n s₀ _ ((forTurn target it body orelse env).onRaise (fun x => do noteFrame x env; theTreesLotGoes x)) fs s
  rw [Sem.onRaise_eq_wrap, hH]
  unfold forTurn
  refine seg_bind_wrap (wpAny_standAt ?_)
  refine seg_bind_wrap (wpAny_onRaise (wpAny_mono h (fun r s₁ h₁ => ?_) fun _ _ h' => wpAny_standAt h'))
  cases r with
  | none => exact seg_again rfl h₁
  | some v =>
    refine seg_bind_wrap (wpAny_mono h₁ (fun _ s₂ h₂ => ?_) fun _ _ e => e)
    refine seg_bind_wrap (wpAny_mono h₂ (fun _ s₃ h₃ => ?_) fun _ _ e => e)
    rw [Sem.bind_eq_wrap', Sem.wrap_wrap]
    refine Eq.mpr (congrArg (fun t => Seg (model prog w) A R Y n s₀ (.forLoop target it body orelse env) t fs s₃) (Sem.wrap_congr (execs body env) _ _ (fun f => ?_) (fun e => ?_))) h₃
    · cases f <;> rfl
    · rfl

theorem seg_blockNil {k : Result → Sem Fin} {hh g l c₁ p₁ kp} (h : Seg (model prog w) A R Y n s₀ c₁ (k (.ok .next)) fs s) :
    Seg (model prog w) A R Y n s₀ (.block [] env) ((model prog w).den (.block [] env)) (.ret k hh g l c₁ p₁ kp :: fs) s := by
  show Seg _ A R Y n s₀ _ (leafOf (.ok .next)) _ s
  exact seg_leaf (.ok .next) h
end

/-- the next item of a def's generator, with the word that what is left of it holds no clean-up -/
theorem next_gen {prog : Program} {w : World} {A : Around} {E : Value → Shared → Prop} {s : Shared} {a : Addr} {g n : Nat} {gs : GenState} {P : Nat → Shared → Shared → Prop} {Y : Protocol} {Q : Option Value → Shared → Prop} (hh : A.handled = none)
    (hl : s.heap.NoLimit) (hroom : A.depth < recursionLimit) (hg : s.heap.IsGen a g) (hgs : s.gens[g]? = some gs)
    (hgo : gs.Goes (model prog w) A.in1 (fun n s₀ r s₁ => r = .ok (.ret .none) ∧ P n s₀ s₁) Y n (.send .none) (s.setGen g .running))
    (hY : ∀ v s₁ gs', gs'.bare = true → Y (n - 1) (s.setGen g .running) v s₁ (fun r' s'' => match n with
        | 0 => False
        | m + 1 => gs'.Goes (model prog w) A.in1 (fun n s₀ r s₁ => r = .ok (.ret .none) ∧ P n s₀ s₁) Y m r' s'') → Q (some v) (s₁.setGen g gs'))
    (hP : ∀ s₁, P n (s.setGen g .running) s₁ → ∀ h', (∀ b o, s₁.heap.get? b = some o → h'.get? b = some o) → Q none { s₁.setGen g .finished with heap := h' }) :
    wpAny (model prog w) A (pyNext (.ref a)) Q E s := by
  unfold pyNext
  refine wpAny_bind (wpAny_attempt (wpAny_callSpecial?_slot (name := Str.ofString "__next__") hg.typeIs slot_gen_next
    (wpAny_call_entry slot_gen_next hg.typeIs entry_gen_next ?_ (args_gen_next _))))
  show wpAny _ _ (Builtin.Generator.genWake (.ref a) (.send .none)) _ _ s
  unfold Builtin.Generator.genWake
  refine wpAny_bind (wpAny_holding (wpAny_genNumber hg (wpAny_bind (wpAny_genState hgs ?_))))
  cases gs with
  | running => exact hgo.elim
  | finished => exact hgo.elim
  | _ =>
    refine wpAny_bind (wpAny_roomToWake hl hroom ?_)
    show wpAny _ _ (.resume g (.send .none) [] _) _ _ s
    refine wpAny_resumeQ hgs hgo (fun x s₁ hx => ?_) (fun v s₁ gs' hb hv => ?_)
    · obtain ⟨rfl, hp⟩ := hx
      show wpAny _ _ (newExc (.type "StopIteration") [] >>= _) _ _ _
      refine wpAny_bind ?_
      simp only [newExc, newTuple]
      refine wpAny_bind (wpAny_newObj_type ?_ (by size_fits))
      refine wpAny_bind (m := firstArgMember _ _) (wpAny_of_eq (a := Value.none) (by first | rfl | (simp only [firstArgMember]; rfl)) ?_)
      refine wpAny_newObj_type ?_ (by size_fits)
      simp only [raiseNew]
      refine wpAny_bind (wpAny_bind (wpAny_handled ?_))
      rw [show A.in1.handled = none from hh]
      refine wpAny_throw ?_
      refine wpAny_bind (wpAny_isInstance (T := "StopIteration") (b := true) ⟨_, Heap.get?_push_size _ rfl, rfl⟩ isSubtype_stop ?_)
      exact wpAny_pure (hP s₁ hp _ fun b o hb => Heap.get?_push_of_some _ (Heap.get?_push_of_some _ hb))
    · exact wpAny_pure ⟨v, rfl, wpAny_pure (hY v s₁ gs' hb hv)⟩
end Mine
namespace Mine

noncomputable abbrev nA : Str := Str.ofString "addr"
noncomputable abbrev nP : Str := Str.ofString "pos"
noncomputable abbrev nE : Str := Str.ofString "escape"
noncomputable abbrev nC : Str := Str.ofString "ch"
noncomputable abbrev nEn : Str := Str.ofString "enumerate"
noncomputable abbrev bsl : Str := ⟨#[92]⟩

/-- the pairs that the escape reader gives: place and text -/
noncomputable def escL : Nat → Bool → List Nat → List (Nat × List Nat)
  | p, true, [] => [(p - 1, [92])]
  | _, false, [] => []
  | p, true, c :: cs => (p, [92, c]) :: escL (p + 1) false cs
  | p, false, c :: cs => if c = 92 then escL (p + 1) true cs else (p, [c]) :: escL (p + 1) false cs
noncomputable def tokD (t : Nat × List Nat) : D := .tup [.int t.1, .str ⟨t.2.toArray⟩]

structure GE (E : Env) : Prop where
  kind : E.scope.kind = .function
  globals : E.globals = mainGlobals
  builtins : E.builtins = builtinsNs
  co : E.scope.isCoroutine = false
  kA : E.kindOf nA = some .local
  kP : E.kindOf nP = some .local
  kE : E.kindOf nE = some .local
  kC : E.kindOf nC = some .local
  kEn : E.kindOf nEn = some .globalImplicit

noncomputable def gρ (p : Nat) (esc : Bool) (ch : Option Str) : Str → Option D := fun y => if y = nP then some (.int p) else if y = nE then some (.bool esc) else if y = nC then ch.map .str else Option.none

/-- the reader's frame -/
structure GF (h₁ : Heap) (E : Env) (x : Str) (p : Nat) (esc : Bool) (ch : Option Str) (s : Shared) : Prop where
  base : ∀ b o, h₁.get? b = some o → s.heap.get? b = some o
  ns : ∃ m ta tp, s.heap.Ns E.locals m ∧ m nA = some (.str x ta) ∧ m nP = some (.int p tp) ∧ m nE = some (.bool esc) ∧ ∀ c, ch = some c → ∃ t, m nC = some (.str c t)

theorem GF.ev {h₁ : Heap} {E : Env} {x : Str} {p : Nat} {esc : Bool} {ch : Option Str} {s : Shared} (g : GE E) (I : GF h₁ E x p esc ch s) : EV h₁ [] E (gρ p esc ch) s := by
  refine ⟨I.base, g.kind, g.globals, g.builtins, (fun a ha => nomatch ha), fun y d e => ?_⟩
  obtain ⟨m, ta, tp, hn, h1, h2, h3, h4⟩ := I.ns
  unfold gρ at e
  split at e
  · rename_i hy; cases e; subst hy; exact ⟨_, .inl ⟨g.kP, m, hn, h2⟩, .int _ _⟩
  · split at e
    · rename_i hy; cases e; subst hy; exact ⟨_, .inl ⟨g.kE, m, hn, h3⟩, .bool _⟩
    · split at e
      · rename_i hy
        subst hy
        cases ch with
        | none => cases e
        | some c =>
          cases e
          obtain ⟨t, ht⟩ := h4 c rfl
          exact ⟨_, .inl ⟨g.kC, m, hn, ht⟩, .str _ _⟩
      · cases e
theorem GF.kp {h₁ : Heap} {E : Env} {x : Str} {p : Nat} {esc : Bool} {ch : Option Str} {s s' : Shared} (I : GF h₁ E x p esc ch s) (k : ∀ b o, s.heap.get? b = some o → s'.heap.get? b = some o) : GF h₁ E x p esc ch s' :=
  ⟨fun b o e => k b o (I.base b o e), let ⟨m, ta, tp, hn, r⟩ := I.ns; ⟨m, ta, tp, hn.keeps k, r⟩⟩

noncomputable def NoFl (o : Obj) : Prop := ∀ vs, o.data ≠ .fields vs
/-- since the last waking: what stands up to a, but for L, is kept, and whatever holds no fields -/
structure GSince (a L : Addr) (s₀ s : Shared) : Prop where
  heap : ∀ b o, (b ≤ a ∨ NoFl o) → b ≠ L → s₀.heap.get? b = some o → s.heap.get? b = some o
  os : s.os = s₀.os
  gens : GX s₀.gens s.gens
theorem GSince.refl (a L : Addr) (s : Shared) : GSince a L s s := ⟨fun _ _ _ _ e => e, rfl, .refl _⟩
theorem GSince.kp {a L : Addr} {s₀ s s' : Shared} (x : GSince a L s₀ s) (k : Kp s s') : GSince a L s₀ s' := ⟨fun b o h1 h2 e => k.heap b o (x.heap b o h1 h2 e), k.os.trans x.os, x.gens.trans k.gens⟩
theorem GSince.step {a L : Addr} {s₀ s : Shared} (x : GSince a L s₀ s) {h' : Heap} {tk : Nat} (k : ∀ b o, (b ≤ a ∨ NoFl o) → b ≠ L → s.heap.get? b = some o → h'.get? b = some o) : GSince a L s₀ { s with heap := h', toks := tk } :=
  ⟨fun b o h1 h2 e => k b o h1 h2 (x.heap b o h1 h2 e), x.os, x.gens⟩

/-- what the others must leave as it is while the reader sleeps -/
noncomputable def FC (L : Addr) (s s'' : Shared) : Prop := ∀ b o, s.heap.get? b = some o → (b = L ∨ ∃ vs, o.data = .fields vs) → s''.heap.get? b = some o
theorem FC.kp {L : Addr} {s s' s'' : Shared} (k : Kp s s') (f : FC L s' s'') : FC L s s'' := fun b o e h => f b o (k.heap b o e) h
noncomputable def gY (h₁ : Heap) (T : List (Nat × List Nat)) (a L : Addr) : Protocol := fun m s₀ v s kap =>
  (∃ t, T[T.length - 1 - m]? = some t ∧ ∀ own, RD own s.heap v (tokD t)) ∧ (∃ m, s.heap.Ns L m) ∧ GSince a L s₀ s ∧
    ∀ s'' : Shared, FC L s s'' → (∀ b o, h₁.get? b = some o → s''.heap.get? b = some o) → kap (.send .none) s''
noncomputable abbrev gR (a L : Addr) : GenEnd := fun n s₀ r s₁ => r = .ok (.ret .none) ∧ (n = 0 ∧ GSince a L s₀ s₁)

section
variable {prog : Program} {w : World} {h₁ : Heap} {Φ : Str → List D → Option D} {E : Env} {x : Str} {a : Addr} {T : List (Nat × List Nat)} {A : Around} {c : Code} {fs : List Frame} {n : Nat} {s₀ s : Shared}
  {K : Flow → Sem Fin} {H : Value → Sem Fin} {gd : Bool → Bool} {lv : List Value → List Value} {p : Nat} {esc : Bool} {ch : Option Str}

noncomputable abbrev GSeg (prog : Program) (w : World) (A : Around) (h₁ : Heap) (T : List (Nat × List Nat)) (a L : Addr) := Seg (model prog w) A (gR a L) (gY h₁ T a L)

/-- one pair given out -/
theorem gen_yield (X : Cx prog w h₁ 0 [] Φ) (g : GE E) (rm : Rm (A.over c fs) 0) (hfs : splitAtGen fs = none) (hgd : gd false = false) (hfg : fs.any Frame.guarded = false) (I : GF h₁ E x p esc ch s) {e : Expr} {yp pos : Pos} {k : Nat} {t : Nat × List Nat}
    (he : ev [] Φ k E.scope.names (gρ p esc ch) e = some (tokD t)) (ht : T[T.length - 1 - n]? = some t) (hs : GSince a E.locals s₀ s)
    (hk : ∀ s'' : Shared, FC E.locals s s'' → GF h₁ E x p esc ch s'' → GSeg prog w A h₁ T a E.locals n s'' c (K .next) fs s'') :
    GSeg prog w A h₁ T a E.locals (n + 1) s₀ c ((exec (.Expr (.Yield (some e) yp) pos) E).wrap K H gd lv) fs s := by
  refine seg_Expr_Yield hfs hgd hfg (ev_sound X k rm _ _ he s _ _ (I.ev g) fun v s' k1 r1 kap hkap => ⟨⟨t, ht, fun own => ?_⟩, (let ⟨m, _, _, hn, _⟩ := I.ns; ⟨m, hn.keeps k1.heap⟩), hs.kp k1, fun s'' h1 h2 => ?_⟩) g.co (inter_false g.kind)
  · unfold tokD at r1 ⊢
    cases r1 with
    | tup ht rs =>
      refine .tup ht ?_
      rename_i vs
      generalize vs.toList = l at rs ⊢
      cases rs with
      | cons r rs =>
        cases rs with
        | cons r' rs =>
          cases rs
          cases r; cases r'
          exact .cons (.int _ _) (.cons (.str _ _) .nil)
  · refine hkap .none s'' (hk s'' (h1.kp k1) ⟨h2, ?_⟩)
    obtain ⟨m, ta, tp, hn, r⟩ := I.ns
    exact ⟨m, ta, tp, (hn.keeps k1.heap).at' fun o e => h1 _ o e (.inl rfl), r⟩
end
end Mine
namespace Mine

theorem PLift.of {P : Prop} {o : Option (PLift P)} (h : o.isSome = true) : P := (o.get h).down

noncomputable def vY1 : (st : Stmt) → Option (PLift (∃ p1 k p2 p3 p4 tk p5 p6 p7, st = .Expr (.Yield (some (.Tuple [.Name nP p1, .BinOp (.Constant (.str bsl) k p2) .Add (.Name nC p3) p4] tk p5)) p6) p7))
  | .Expr (.Yield (some (.Tuple [.Name a p1, .BinOp (.Constant (.str b) k p2) .Add (.Name c p3) p4] tk p5)) p6) p7 =>
    if h : a = nP ∧ b = bsl ∧ c = nC then some ⟨p1, k, p2, p3, p4, tk, p5, p6, p7, h.1 ▸ h.2.1 ▸ h.2.2 ▸ rfl⟩ else Option.none
  | _ => Option.none
noncomputable def vY2 : (st : Stmt) → Option (PLift (∃ p1 p3 tk p5 p6 p7, st = .Expr (.Yield (some (.Tuple [.Name nP p1, .Name nC p3] tk p5)) p6) p7))
  | .Expr (.Yield (some (.Tuple [.Name a p1, .Name c p3] tk p5)) p6) p7 => if h : a = nP ∧ c = nC then some ⟨p1, p3, tk, p5, p6, p7, h.1 ▸ h.2 ▸ rfl⟩ else Option.none
  | _ => Option.none
noncomputable def vY3 : (st : Stmt) → Option (PLift (∃ p1 k p3 tk p5 p6 p7, st = .Expr (.Yield (some (.Tuple [.Name nP p1, .Constant (.str bsl) k p3] tk p5)) p6) p7))
  | .Expr (.Yield (some (.Tuple [.Name a p1, .Constant (.str b) k p3] tk p5)) p6) p7 => if h : a = nP ∧ b = bsl then some ⟨p1, k, p3, tk, p5, p6, p7, h.1 ▸ h.2 ▸ rfl⟩ else Option.none
  | _ => Option.none
noncomputable def vSet (v : Bool) : (st : Stmt) → Option (PLift (∃ p1 k p2 p3, st = .Assign [.Name nE p1] (.Constant (.bool v) k p2) p3))
  | .Assign [.Name a p1] (.Constant (.bool b) k p2) p3 => if h : a = nE ∧ b = v then some ⟨p1, k, p2, p3, h.1 ▸ h.2 ▸ rfl⟩ else Option.none
  | _ => Option.none
noncomputable def vSet0 : (st : Stmt) → Option (PLift (∃ p1 k p2 p3, st = .Assign [.Name nP p1] (.Constant (.int 0) k p2) p3))
  | .Assign [.Name a p1] (.Constant (.int i) k p2) p3 => if h : a = nP ∧ i = 0 then some ⟨p1, k, p2, p3, h.1 ▸ h.2 ▸ rfl⟩ else Option.none
  | _ => Option.none
noncomputable def vTE : (e : Expr) → Option (PLift (∃ p1, e = .Name nE p1))
  | .Name a p1 => if h : a = nE then some ⟨p1, h ▸ rfl⟩ else Option.none
  | _ => Option.none
noncomputable def vTC : (e : Expr) → Option (PLift (∃ p1 k p2 p3, e = .Compare (.Name nC p1) [.Eq] [.Constant (.str bsl) k p2] p3))
  | .Compare (.Name a p1) [.Eq] [.Constant (.str b) k p2] p3 => if h : a = nC ∧ b = bsl then some ⟨p1, k, p2, p3, h.1 ▸ h.2 ▸ rfl⟩ else Option.none
  | _ => Option.none
noncomputable def vTgt : (e : Expr) → Option (PLift (∃ p1 p2 tk p3, e = .Tuple [.Name nP p1, .Name nC p2] tk p3))
  | .Tuple [.Name a p1, .Name b p2] tk p3 => if h : a = nP ∧ b = nC then some ⟨p1, p2, tk, p3, h.1 ▸ h.2 ▸ rfl⟩ else Option.none
  | _ => Option.none
noncomputable def vIt : (e : Expr) → Option (PLift (∃ p1 p2 p3, e = .Call (.Name nEn p1) [.Name nA p2] [] p3))
  | .Call (.Name f p1) [.Name a p2] [] p3 => if h : f = nEn ∧ a = nA then some ⟨p1, p2, p3, h.1 ▸ h.2 ▸ rfl⟩ else Option.none
  | _ => Option.none
noncomputable def isY1 (st : Stmt) : Bool := (vY1 st).isSome
noncomputable def isY2 (st : Stmt) : Bool := (vY2 st).isSome
noncomputable def isY3 (st : Stmt) : Bool := (vY3 st).isSome
noncomputable def isSet (v : Bool) (st : Stmt) : Bool := (vSet v st).isSome
noncomputable def isSet0 (st : Stmt) : Bool := (vSet0 st).isSome
noncomputable def isTE (e : Expr) : Bool := (vTE e).isSome
noncomputable def isTC (e : Expr) : Bool := (vTC e).isSome
noncomputable def isTgt (e : Expr) : Bool := (vTgt e).isSome
noncomputable def isIt (e : Expr) : Bool := (vIt e).isSome
noncomputable def vLB : (b : List Stmt) → Option (PLift (∃ t y1 s1 t2 s2 y2 p2 p1, b = [.If t [y1, s1] [.If t2 [s2] [y2] p2] p1] ∧ (isTE t && isY1 y1 && isSet false s1 && isTC t2 && isSet true s2 && isY2 y2) = true))
  | [.If t [y1, s1] [.If t2 [s2] [y2] p2] p1] => if h : (isTE t && isY1 y1 && isSet false s1 && isTC t2 && isSet true s2 && isY2 y2) = true then some ⟨t, y1, s1, t2, s2, y2, p2, p1, rfl, h⟩ else Option.none
  | _ => Option.none
noncomputable def isLB (b : List Stmt) : Bool := (vLB b).isSome
noncomputable def vGen : (b : List Stmt) → Option (PLift (∃ s0 s1 t it body fp te y3 ip, b = [s0, s1, .For t it body [] fp, .If te [y3] [] ip] ∧ (isSet0 s0 && isSet false s1 && isTgt t && isIt it && isLB body && isTE te && isY3 y3) = true))
  | [s0, s1, .For t it body [] fp, .If te [y3] [] ip] => if h : (isSet0 s0 && isSet false s1 && isTgt t && isIt it && isLB body && isTE te && isY3 y3) = true then some ⟨s0, s1, t, it, body, fp, te, y3, ip, rfl, h⟩ else Option.none
  | _ => Option.none
noncomputable def isGen (b : List Stmt) : Bool := (vGen b).isSome

structure Up (L : Addr) (s s' : Shared) : Prop where
  heap : ∀ b o, b ≠ L → s.heap.get? b = some o → s'.heap.get? b = some o
  os : s'.os = s.os
  gens : GX s.gens s'.gens
theorem Up.trans {L : Addr} {s s' s'' : Shared} (x : Up L s s') (y : Up L s' s'') : Up L s s'' := ⟨fun b o h e => y.heap b o h (x.heap b o h e), y.os.trans x.os, x.gens.trans y.gens⟩
theorem Up.of_kp {L : Addr} {s s' : Shared} (k : Kp s s') : Up L s s' := ⟨fun b o _ e => k.heap b o e, k.os, k.gens⟩
theorem GSince.up {a L : Addr} {s₀ s s' : Shared} (x : GSince a L s₀ s) (u : Up L s s') : GSince a L s₀ s' := ⟨fun b o h1 h2 e => u.heap b o h2 (x.heap b o h1 h2 e), u.os.trans x.os, x.gens.trans u.gens⟩
theorem GF.forget {h₁ : Heap} {E : Env} {x : Str} {p : Nat} {esc : Bool} {ch : Option Str} {s : Shared} (I : GF h₁ E x p esc ch s) : GF h₁ E x p esc none s :=
  ⟨I.base, let ⟨m, ta, tp, hn, h1, h2, h3, _⟩ := I.ns; ⟨m, ta, tp, hn, h1, h2, h3, fun c e => nomatch e⟩⟩
theorem tok_here {T done rest : List (Nat × List Nat)} {t : Nat × List Nat} (h : T = done ++ t :: rest) : T[T.length - 1 - rest.length]? = some t := by
  subst h
  have : (done ++ t :: rest).length - 1 - rest.length = done.length := by simp
  rw [this, List.getElem?_append_right (Nat.le_refl _), Nat.sub_self]; rfl

section
variable {prog : Program} {w : World} {h₁ : Heap} {Φ : Str → List D → Option D} {E : Env} {x : Str} {a : Addr} {T : List (Nat × List Nat)} {A : Around} {c : Code} {fs : List Frame} {n : Nat} {s₀ s : Shared}
  {K : Flow → Sem Fin} {H : Value → Sem Fin} {gd : Bool → Bool} {lv : List Value → List Value} {p : Nat} {esc : Bool} {ch : Option Str}

theorem y1_seg (X : Cx prog w h₁ 0 [] Φ) (g : GE E) (rm : Rm (A.over c fs) 0) (hfs : splitAtGen fs = none) (hgd : gd false = false) (hfg : fs.any Frame.guarded = false) {cp : Nat} (I : GF h₁ E x p esc (some ⟨#[cp]⟩) s) {st : Stmt} (h : isY1 st = true)
    (ht : T[T.length - 1 - n]? = some (p, [92, cp])) (hs : GSince a E.locals s₀ s)
    (hk : ∀ s'' : Shared, FC E.locals s s'' → GF h₁ E x p esc (some ⟨#[cp]⟩) s'' → GSeg prog w A h₁ T a E.locals n s'' c (K .next) fs s'') :
    GSeg prog w A h₁ T a E.locals (n + 1) s₀ c ((exec st E).wrap K H gd lv) fs s := by
  obtain ⟨_, _, _, _, _, _, _, _, _, rfl⟩ := PLift.of h
  exact gen_yield X g rm hfs hgd hfg I (k := 4) (t := (p, [92, cp])) (by kernel_rfl) ht hs hk
theorem y2_seg (X : Cx prog w h₁ 0 [] Φ) (g : GE E) (rm : Rm (A.over c fs) 0) (hfs : splitAtGen fs = none) (hgd : gd false = false) (hfg : fs.any Frame.guarded = false) {cp : Nat} (I : GF h₁ E x p esc (some ⟨#[cp]⟩) s) {st : Stmt} (h : isY2 st = true)
    (ht : T[T.length - 1 - n]? = some (p, [cp])) (hs : GSince a E.locals s₀ s)
    (hk : ∀ s'' : Shared, FC E.locals s s'' → GF h₁ E x p esc (some ⟨#[cp]⟩) s'' → GSeg prog w A h₁ T a E.locals n s'' c (K .next) fs s'') :
    GSeg prog w A h₁ T a E.locals (n + 1) s₀ c ((exec st E).wrap K H gd lv) fs s := by
  obtain ⟨_, _, _, _, _, _, rfl⟩ := PLift.of h
  exact gen_yield X g rm hfs hgd hfg I (k := 4) (t := (p, [cp])) (by kernel_rfl) ht hs hk
theorem y3_seg (X : Cx prog w h₁ 0 [] Φ) (g : GE E) (rm : Rm (A.over c fs) 0) (hfs : splitAtGen fs = none) (hgd : gd false = false) (hfg : fs.any Frame.guarded = false) (I : GF h₁ E x p esc ch s) {st : Stmt} (h : isY3 st = true)
    (ht : T[T.length - 1 - n]? = some (p, [92])) (hs : GSince a E.locals s₀ s)
    (hk : ∀ s'' : Shared, FC E.locals s s'' → GF h₁ E x p esc ch s'' → GSeg prog w A h₁ T a E.locals n s'' c (K .next) fs s'') :
    GSeg prog w A h₁ T a E.locals (n + 1) s₀ c ((exec st E).wrap K H gd lv) fs s := by
  obtain ⟨_, _, _, _, _, _, _, rfl⟩ := PLift.of h
  exact gen_yield X g rm hfs hgd hfg I (k := 4) (t := (p, [92])) (by kernel_rfl) ht hs hk

variable {A' : Around} {Err : Value → Shared → Prop}
theorem store_gf (g : GE E) (hL1 : h₁.get? E.locals = none) {m : Str → Option Value} (base : ∀ b o, h₁.get? b = some o → s.heap.get? b = some o) (hn : s.heap.Ns E.locals m) {y : Str} {v : Value} (hk : E.kindOf y = some .local) {Q : Unit → Shared → Prop}
    (h : ∀ s', Up E.locals s s' → (∀ b o, h₁.get? b = some o → s'.heap.get? b = some o) → s'.heap.Ns E.locals (fun z => if z = y then some v else m z) → Q () s') : wpAny (model prog w) A' (storeName E y v) Q Err s := by
  refine wpAny_storeName_local hk hn (fun h' hn' hs' => ?_) (by simp [g.kind])
  refine h _ ⟨fun b o hb e => hs'.extBut b o hb e, rfl, .refl _⟩ (fun b o e => hs'.extBut b o (fun q => by subst q; rw [hL1] at e; cases e) (base b o e)) hn'

theorem set_wp (X : Cx prog w h₁ 0 [] Φ) (g : GE E) (hL1 : h₁.get? E.locals = none) (rm : Rm A' 0) {st : Stmt} {v : Bool} (h : isSet v st = true) (I : GF h₁ E x p esc ch s) {Q : Flow → Shared → Prop} (hQ : ∀ s', GF h₁ E x p v ch s' → Up E.locals s s' → Q .next s') :
    wpAny (model prog w) A' (exec st E) Q Err s := by
  obtain ⟨_, _, _, _, rfl⟩ := PLift.of h
  refine wpAny_Assign_Name (ev_sound X 2 rm _ (.bool _) (by rfl) s _ _ (I.ev g) fun u s₁ k1 r1 => ?_)
  cases r1
  have I1 := I.kp k1.heap
  obtain ⟨m, ta, tp, hn, h1, h2, h3, h4⟩ := I1.ns
  refine store_gf g hL1 I1.base hn g.kE fun s' u' b' hn' => hQ s' ⟨b', _, ta, tp, hn', ?_, ?_, ?_, fun c hc => ?_⟩ ((Up.of_kp k1).trans u')
  · rw [if_neg (by decide +kernel)]; exact h1
  · rw [if_neg (by decide +kernel)]; exact h2
  · rw [if_pos rfl]
  · rw [if_neg (by decide +kernel)]; exact h4 c hc

theorem test_E (X : Cx prog w h₁ 0 [] Φ) (g : GE E) (rm : Rm A' 0) {e : Expr} (h : isTE e = true) (I : GF h₁ E x p esc ch s) {Q : Bool → Shared → Prop} (hQ : ∀ s', Kp s s' → Q esc s') : wpAny (model prog w) A' (isTrue e E (eval e E)) Q Err s := by
  obtain ⟨_, rfl⟩ := PLift.of h
  exact tst_sound rm (fun e d hd => ev_sound X 3 rm e d hd) (b := esc) (by kernel_rfl) s _ _ (I.ev g) hQ
theorem test_C (X : Cx prog w h₁ 0 [] Φ) (g : GE E) (rm : Rm A' 0) {e : Expr} (h : isTC e = true) {cp : Nat} (I : GF h₁ E x p esc (some ⟨#[cp]⟩) s) {Q : Bool → Shared → Prop} (hQ : ∀ s', Kp s s' → Q ((⟨#[cp]⟩ : Str) == bsl) s') : wpAny (model prog w) A' (isTrue e E (eval e E)) Q Err s := by
  obtain ⟨_, _, _, _, rfl⟩ := PLift.of h
  exact tst_sound rm (fun e d hd => ev_sound X 3 rm e d hd) (b := (⟨#[cp]⟩ : Str) == bsl) (by kernel_rfl) s _ _ (I.ev g) hQ

theorem assign_gf (g : GE E) (hL1 : h₁.get? E.locals = none) (hh : A'.handled = none) {tgt : Expr} (h : isTgt tgt = true) (I : GF h₁ E x p esc ch s) {i : Nat} {u t : Tok} {y : Str} {Ta : Addr} (hT : s.heap.IsTuple Ta #[.int i u, .str y t]) {Q : Unit → Shared → Prop}
    (hQ : ∀ s', GF h₁ E x i esc (some y) s' → Up E.locals s s' → Q () s') : wpAny (model prog w) A' (assign tgt E (.ref Ta)) Q Err s := by
  obtain ⟨_, _, _, _, rfl⟩ := PLift.of h
  refine wpAny_assign_Tuple hh hT rfl rfl fun h' hx => ?_
  have kh : ∀ b o, s.heap.get? b = some o → h'.get? b = some o := fun b o e => hx b o (fun q => by subst q; rw [get_none_of_ge (Nat.le_refl _)] at e; cases e) e
  have k1 : Kp s { s with heap := h' } := ⟨kh, rfl, .refl _⟩
  have I1 := I.kp (s' := { s with heap := h' }) kh
  obtain ⟨m, ta, tp, hn, h1, h2, h3, h4⟩ := I1.ns
  show wpAny _ A' (do holding _ (assign (.Name nP _) E _); assignInOrder _ _) Q Err _
  refine wpAny_bind (wpAny_holding (wpAny_assign_Name (store_gf g hL1 I1.base hn g.kP fun s₁ u1 b1 hn1 => ?_)))
  show wpAny _ A' (do holding _ (assign (.Name nC _) E _); assignInOrder _ _) Q Err _
  refine wpAny_bind (wpAny_holding (wpAny_assign_Name (store_gf g hL1 b1 hn1 g.kC fun s₂ u2 b2 hn2 => wpAny_pure ?_)))
  refine hQ s₂ ⟨b2, _, ta, u, hn2, ?_, ?_, ?_, fun c hc => ?_⟩ (((Up.of_kp k1).trans u1).trans u2)
  · rw [if_neg (by decide +kernel), if_neg (by decide +kernel)]; exact h1
  · rw [if_neg (by decide +kernel), if_pos rfl]
  · rw [if_neg (by decide +kernel), if_neg (by decide +kernel)]; exact h3
  · cases hc; exact ⟨t, by rw [if_pos rfl]⟩
end
end Mine
namespace Mine

section
variable {prog : Program} {w : World} {h₁ : Heap} {Φ : Str → List D → Option D} {E : Env} {x : Str} {a : Addr} {T : List (Nat × List Nat)} {A : Around}

noncomputable def enSt (x : Str) (t : Tok) (e it : Addr) (i : Nat) (h : Heap) : Prop := (∃ old, IsEnum h e it i old) ∧ h.IsStrIter it "str_ascii_iterator" x t i

theorem enWalk (prog : Program) (w : World) (x : Str) (t : Tok) {e it : Addr} (hei : e ≠ it) (A' : Around) (hh : A'.handled = none) :
    WalksT prog w A' e [e, it] [e, it] x.cps.size (fun i vals => ∃ t' v, (∃ c u, x.cps[i]? = some c ∧ v = .str ⟨#[c]⟩ u) ∧ vals = #[.int i t', v]) (enSt x t e it)
      (fun i T h => (∃ y, IsEnumOut h e it ((i : Int) + 1) y T) ∧ h.IsStrIter it "str_ascii_iterator" x t (i + 1) ∧ T ≠ e ∧ T ≠ it) :=
  WalksT.enumerateD (Draws.strAscii (A := A'.in1) hh it x t) e hei (by simpa using hei) (by simp)

theorem gen_loop (X : Cx prog w h₁ 0 [] Φ) (g : GE E) (hL1 : h₁.get? E.locals = none) {e it : Addr} {t : Tok} (he1 : h₁.get? e = none) (hi1 : h₁.get? it = none) (hLa : E.locals < a) (hae : a < e) (hai : a < it) (hei : e ≠ it)
    {body : List Stmt} (hb : isLB body = true) {tgt : Expr} (htg : isTgt tgt = true) {kf : Result → Sem Fin} {hh0 : Option Value} {l0 : List Value} {c₁ : Code} {p₁ : Pos} {kp : List Value} {fs' : List Frame}
    (rm : Rm (A.over (.forLoop tgt (.ref e) body [] E) (.ret kf hh0 false l0 c₁ p₁ kp :: fs')) 0) (hfs : splitAtGen (.ret kf hh0 false l0 c₁ p₁ kp :: fs') = none) (hfg : (Frame.ret kf hh0 false l0 c₁ p₁ kp :: fs').any Frame.guarded = false)
    (hend : ∀ esc s₀ s, GF h₁ E x (x.cps.size - 1) esc none s → GSince a E.locals s₀ s → (∃ done, T = done ++ escL x.cps.size esc []) → GSeg prog w A h₁ T a E.locals (escL x.cps.size esc []).length s₀ c₁ (kf (.ok .next)) fs' s) :
    ∀ k i esc s₀ s, x.cps.size - i = k → i ≤ x.cps.size → GF h₁ E x (i - 1) esc none s → enSt x t e it i s.heap → GSince a E.locals s₀ s → (∃ done, T = done ++ escL i esc (x.cps.toList.drop i)) →
      GSeg prog w A h₁ T a E.locals (escL i esc (x.cps.toList.drop i)).length s₀ (.forLoop tgt (.ref e) body [] E) ((model prog w).den (.forLoop tgt (.ref e) body [] E)) (.ret kf hh0 false l0 c₁ p₁ kp :: fs') s := by
  obtain ⟨es, kk, pp, rfl⟩ : ∃ es kk pp, tgt = .Tuple es kk pp := by
    obtain ⟨_, _, _, _, e⟩ := PLift.of htg
    exact ⟨_, _, _, e⟩

  have W := enWalk prog w x t hei _ rm.hh
  have nL : E.locals ∉ [e, it] := by
    simp only [List.mem_cons, List.not_mem_nil, or_false, not_or]
    exact ⟨Nat.ne_of_lt (Nat.lt_trans hLa hae), Nat.ne_of_lt (Nat.lt_trans hLa hai)⟩
  have n1 : ∀ b o, h₁.get? b = some o → b ∉ [e, it] := fun b o eq hm => by
    simp only [List.mem_cons, List.not_mem_nil, or_false] at hm
    rcases hm with rfl | rfl
    · rw [he1] at eq; cases eq
    · rw [hi1] at eq; cases eq
  have na : ∀ {h : Heap} {oe oi : Obj} {ve vi : Array Value}, h.get? e = some oe → oe.data = .fields ve → h.get? it = some oi → oi.data = .fields vi → ∀ b o, (b ≤ a ∨ NoFl o) → h.get? b = some o → b ∉ [e, it] := fun {h oe oi ve vi} q1 q2 q3 q4 b o hb eq hm => by
    simp only [List.mem_cons, List.not_mem_nil, or_false] at hm
    rcases hm with rfl | rfl
    · rcases hb with hb | hb
      · exact absurd hae (Nat.not_lt.mpr hb)
      · rw [q1] at eq; cases eq; exact hb _ q2
    · rcases hb with hb | hb
      · exact absurd hai (Nat.not_lt.mpr hb)
      · rw [q3] at eq; cases eq; exact hb _ q4
  have naS : ∀ {i : Nat} {h : Heap}, enSt x t e it i h → ∀ b o, (b ≤ a ∨ NoFl o) → h.get? b = some o → b ∉ [e, it] := fun {i h} st => by
    obtain ⟨⟨old, he⟩, o, ho, hc, hd⟩ := st
    exact na he rfl ho hd
  have moved : ∀ {p esc ch} {s : Shared} {h' : Heap} {tk : Nat}, GF h₁ E x p esc ch s → (∀ b o, b ∉ [e, it] → s.heap.get? b = some o → h'.get? b = some o) → GF h₁ E x p esc ch { s with heap := h', toks := tk } := fun {p esc ch s h' tk} I hk =>
    ⟨fun b o eq => hk b o (n1 b o eq) (I.base b o eq), let ⟨m, ta, tp, hn, r⟩ := I.ns; ⟨m, ta, tp, hn.at' fun o eq => hk _ o nL eq, r⟩⟩
  have enUp : ∀ {i} {s s' : Shared}, enSt x t e it i s.heap → Up E.locals s s' → enSt x t e it i s'.heap := fun {i s s'} st u => W.frame i _ _ st fun b hb o eq => u.heap b o (fun q => nL (q ▸ hb)) eq
  have enRe : ∀ {i} {s s' : Shared}, enSt x t e it i s.heap → FC E.locals s s' → enSt x t e it i s'.heap := fun {i s s'} st u => by
    obtain ⟨⟨old, he⟩, o, ho, hc, hd⟩ := st
    exact ⟨⟨old, u _ _ he (.inr ⟨_, rfl⟩)⟩, o, u _ _ ho (.inr ⟨_, hd⟩), hc, hd⟩
  intro k
  induction k with
  | zero =>
    intro i esc s₀ s hk hi I st hs hd
    have hin : i = x.cps.size := by omega
    subst hin
    have hdrop : x.cps.toList.drop x.cps.size = [] := List.drop_of_length_le (by simp)
    rw [hdrop] at hd ⊢
    refine seg_forLoop (W.done s _ _ st fun h' tk hk' => seg_blockNil (hend esc s₀ _ (moved I hk') (hs.step fun b o h1 h2 eq => hk' b o (naS st b o h1 eq) eq) hd))
  | succ k ih =>
    intro i esc s₀ s hk hi I st hs hd
    have hlt : i < x.cps.size := by omega
    have hdrop : x.cps.toList.drop i = x.cps[i] :: x.cps.toList.drop (i + 1) := by
      rw [List.drop_eq_getElem_cons (by simpa using hlt)]; simp
    refine seg_forLoop (W.item i s _ _ hlt st fun Ta vals h1 tk hP hTl hTup hMid hk1 => ?_)
    obtain ⟨t', v, ⟨cc, u, hcc, rfl⟩, rfl⟩ := hP
    have hcc' : x.cps[i] = cc := by rw [Array.getElem?_eq_getElem hlt] at hcc; exact Option.some.inj hcc
    rw [hcc'] at hdrop
    have I1 : GF h₁ E x (i - 1) esc none { s with heap := h1, toks := tk } := moved I hk1
    have hs1 : GSince a E.locals s₀ { s with heap := h1, toks := tk } := hs.step fun b o q1 q2 eq => hk1 b o (naS st b o q1 eq) eq
    have hTw : Ta ∉ [e, it] := W.apart i Ta h1 hMid
    refine W.go es kk pp i Ta _ _ _ hMid fun h2 st2 hk2 => ?_
    have I2 : GF h₁ E x (i - 1) esc none { s with heap := h2, toks := tk } := moved (s := { s with heap := h1, toks := tk }) I1 hk2
    have hs2 : GSince a E.locals s₀ { s with heap := h2, toks := tk } := hs1.step (s := { s with heap := h1, toks := tk }) fun b o q1 q2 eq => hk2 b o (by obtain ⟨⟨y, hy⟩, ⟨oi, ho, hc, hd⟩, _⟩ := hMid; exact na hy rfl ho hd b o q1 eq) eq
    have hTup2 : h2.IsTuple Ta #[.int i t', .str ⟨#[cc]⟩ u] := let ⟨o, ho, r⟩ := hTup; ⟨o, hk2 Ta o hTw ho, r⟩
    refine assign_gf g hL1 rm.hh htg I2 hTup2 fun s₃ I3 u3 => ?_
    have st3 : enSt x t e it (i + 1) s₃.heap := enUp (s := { s with heap := h2, toks := tk }) st2 u3
    have hs3 := hs2.up u3
    obtain ⟨tE, y1, s1, tC, sT, y2, p2, p1, rfl, hb9⟩ := PLift.of hb
    simp only [Bool.and_eq_true] at hb9
    obtain ⟨⟨⟨⟨⟨b1, b2⟩, b3⟩, b4⟩, b5⟩, b6⟩ := hb9
    refine seg_execs_cons (seg_If (test_E X g rm b1 I3 fun s₄ k4 => ?_))
    have I4 := I3.kp k4.heap
    have st4 : enSt x t e it (i + 1) s₄.heap := enUp st3 (.of_kp k4)
    have hs4 := hs3.kp k4
    have i1 : i + 1 - 1 = i := by omega
    rw [hdrop] at hd ⊢
    cases esc with
    | true =>
      rw [if_pos rfl]
      show GSeg prog w A h₁ T a E.locals ((escL (i + 1) false (x.cps.toList.drop (i + 1))).length + 1) s₀ _ _ _ s₄
      obtain ⟨done, hT⟩ := hd
      have hT : T = done ++ (i, [92, cc]) :: escL (i + 1) false (x.cps.toList.drop (i + 1)) := hT
      refine seg_execs_cons (y1_seg X g rm hfs rfl hfg I4 b2 (tok_here hT) hs4 fun s₅ k5 I5 => ?_)
      have st5 := enRe st4 k5
      refine seg_execs_cons (seg_plain (set_wp X g hL1 rm b3 I5 fun s₆ I6 u6 => ?_))
      show GSeg prog w A h₁ T a E.locals _ s₅ _ (.pure (.again (.forLoop _ (.ref e) _ [] E))) _ s₆
      refine seg_again rfl (ih (i + 1) false s₅ s₆ (by omega) hlt ?_ (enUp st5 u6) ((GSince.refl _ _ _).up u6) ⟨done ++ [(i, [92, cc])], by rw [hT]; simp⟩)
      rw [i1]; exact I6.forget
    | false =>
      rw [if_neg (by simp)]
      refine seg_execs_cons (seg_If (test_C X g rm b4 I4 fun s₅ k5 => ?_))
      have I5 := I4.kp k5.heap
      have st5 : enSt x t e it (i + 1) s₅.heap := enUp st4 (.of_kp k5)
      have hs5 := hs4.kp k5
      by_cases h92 : cc = 92
      · subst h92
        rw [if_pos (by decide)]
        have hlist : escL i false (92 :: x.cps.toList.drop (i + 1)) = escL (i + 1) true (x.cps.toList.drop (i + 1)) := by rw [escL]; simp
        rw [hlist] at hd ⊢
        refine seg_execs_cons (seg_plain (set_wp X g hL1 rm b5 I5 fun s₆ I6 u6 => ?_))
        show GSeg prog w A h₁ T a E.locals _ s₀ _ (.pure (.again (.forLoop _ (.ref e) _ [] E))) _ s₆
        refine seg_again rfl (ih (i + 1) true s₀ s₆ (by omega) hlt ?_ (enUp st5 u6) (hs5.up u6) hd)
        rw [i1]; exact I6.forget
      · rw [if_neg (by simpa [bsl] using h92)]
        have hlist : escL i false (cc :: x.cps.toList.drop (i + 1)) = (i, [cc]) :: escL (i + 1) false (x.cps.toList.drop (i + 1)) := by rw [escL]; simp [h92]
        rw [hlist] at hd ⊢
        obtain ⟨done, hT⟩ := hd
        show GSeg prog w A h₁ T a E.locals ((escL (i + 1) false (x.cps.toList.drop (i + 1))).length + 1) s₀ _ _ _ s₅
        refine seg_execs_cons (y2_seg X g rm hfs rfl hfg I5 b6 (tok_here hT) hs5 fun s₆ k6 I6 => ?_)
        have st6 := enRe st5 k6
        show GSeg prog w A h₁ T a E.locals _ s₆ _ (.pure (.again (.forLoop _ (.ref e) _ [] E))) _ s₆
        refine seg_again rfl (ih (i + 1) false s₆ s₆ (by omega) hlt ?_ st6 (.refl _ _ _) ⟨done ++ [(i, [cc])], by rw [hT]; simp⟩)
        rw [i1]; exact I6.forget
end
end Mine
namespace Mine

section
variable {prog : Program} {w : World} {h₁ : Heap} {Φ : Str → List D → Option D} {E : Env} {x : Str} {a : Addr} {A : Around}

structure G0 (h₁ : Heap) (E : Env) (x : Str) (s : Shared) : Prop where
  base : ∀ b o, h₁.get? b = some o → s.heap.get? b = some o
  ns : ∃ m ta, s.heap.Ns E.locals m ∧ m nA = some (.str x ta)

theorem ev0 (g : GE E) {s : Shared} (base : ∀ b o, h₁.get? b = some o → s.heap.get? b = some o) : EV h₁ [] E (fun _ => Option.none) s :=
  ⟨base, g.kind, g.globals, g.builtins, (fun a ha => nomatch ha), fun y d e => nomatch e⟩

noncomputable def HasEnum (h₁ : Heap) : Prop := ∃ mg mb, h₁.Ns mainGlobals mg ∧ mg nEn = none ∧ h₁.Ns builtinsNs mb ∧ mb nEn = some (.type "enumerate")

theorem enum_wp {A' : Around} {Err : Value → Shared → Prop} {s : Shared} (g : GE E) (hen : HasEnum h₁) {it : Expr} (h : isIt it = true) (I : G0 h₁ E x s) (hasc : x.cps.all (· < 128) = true) {Q : Value → Shared → Prop}
    (hQ : ∀ t h', enSt x t (s.heap.objs.size + 1) s.heap.objs.size 0 h' → (∀ b o, s.heap.get? b = some o → h'.get? b = some o) → Q (.ref (s.heap.objs.size + 1)) { s with heap := h' }) :
    wpAny (model prog w) A' (eval it E) Q Err s := by
  obtain ⟨_, _, _, rfl⟩ := PLift.of h
  obtain ⟨mg, mb, hg, hmg, hgb, hmb⟩ := hen
  obtain ⟨m, ta, hn, hm⟩ := I.ns
  refine wpAny_Call_Name_kw (name_glob g.kind g.kEn (by decide) ?_)
  refine Calls.loadGlobal_builtin (mg := mg) (mb := mb) (by rw [g.globals]; exact hg.keeps I.base) hmg (by rw [g.builtins]; exact hgb.keeps I.base) hmb ?_
  refine PyProof.Rows.callWith_type rfl (Calls.evalArgs_plain (wpAny_items_cons (wpAny_Name (wpAny_loadName_local g.kind g.kA hn hm (wpAny_items_nil ?_)) (by decide))))
  refine call_enumerate_str fun h' he hit hsz hk => hQ ta h' ⟨⟨_, he⟩, ?_⟩ hk
  have : strIterType x = "str_ascii_iterator" := by unfold strIterType; rw [if_pos hasc]
  rw [← this]; exact hit

theorem gen_seg (X : Cx prog w h₁ 0 [] Φ) (g : GE E) (hL1 : h₁.get? E.locals = none) (hen : HasEnum h₁) (hLa : E.locals < a) (hasc : x.cps.all (· < 128) = true) {gb : List Stmt} (hgb : isGen gb = true) (rm : Rm A 1) {s : Shared}
    (hax : ∃ o, s.heap.get? a = some o) (I : G0 h₁ E x s) :
    GSeg prog w A h₁ (escL 0 false x.cps.toList) a E.locals (escL 0 false x.cps.toList).length s (.func gb E) ((model prog w).den (.func gb E)) [] s := by
  obtain ⟨s0, s1, tgt, it, body, fp, te, y3, ip, rfl, hg9⟩ := PLift.of hgb
  simp only [Bool.and_eq_true] at hg9
  obtain ⟨⟨⟨⟨⟨⟨b0, b1⟩, b2⟩, b3⟩, b4⟩, b5⟩, b6⟩ := hg9
  have rm0 : Rm (A.over (.func [s0, s1, .For tgt it body [] fp, .If te [y3] [] ip] E) []) 0 := ⟨rm.hh, by have := rm.dp; show A.depth + 0 + 1 + 0 < 900; omega, by have := rm.un; show A.units + 0 + 3 + 30 * 0 < 9000; omega⟩
  refine seg_func (seg_execs_cons (seg_plain ?_))
  obtain ⟨_, _, _, _, rfl⟩ := PLift.of b0
  refine wpAny_Assign_Name (ev_sound X 2 rm0 _ (.int 0) (by rfl) s _ _ (ev0 g I.base) fun u s₁ k1 r1 => ?_)
  cases r1
  obtain ⟨m, ta, hn, hm⟩ := I.ns
  refine store_gf g hL1 (fun b o e => k1.heap b o (I.base b o e)) (hn.keeps k1.heap) g.kP fun s₂ u2 base2 hn2 => ?_
  refine seg_execs_cons (seg_plain ?_)
  obtain ⟨_, _, _, _, rfl⟩ := PLift.of b1
  refine wpAny_Assign_Name (ev_sound X 2 rm0 _ (.bool false) (by rfl) s₂ _ _ (ev0 g base2) fun u s₃ k3 r3 => ?_)
  cases r3
  refine store_gf g hL1 (fun b o e => k3.heap b o (base2 b o e)) (hn2.keeps k3.heap) g.kE fun s₄ u4 base4 hn4 => ?_
  have hA : ∀ tt : Tok, (fun z => if z = nE then some (Value.bool false) else (if z = nP then some (Value.int 0 tt) else m z)) nA = some (.str x ta) := by
    intro tt
    show (if nA = nE then _ else (if nA = nP then _ else m nA)) = _
    rw [if_neg (by decide +kernel), if_neg (by decide +kernel)]; exact hm
  have up4 : Up E.locals s s₄ := (((Up.of_kp k1).trans u2).trans (Up.of_kp k3)).trans u4
  have I4 : GF h₁ E x 0 false none s₄ := ⟨base4, _, ta, _, hn4, hA _, (by rw [if_neg (by decide +kernel), if_pos rfl]; rfl), (by rw [if_pos rfl]), fun c hc => nomatch hc⟩
  refine seg_execs_cons (seg_For (fun y => ?_) (enum_wp g hen b3 ⟨base4, _, ta, hn4, hA _⟩ hasc fun t h' st kh => ?_))
  · obtain ⟨_, _, _, rfl⟩ := PLift.of b3
    rfl
  obtain ⟨o, hao⟩ := hax
  have hLa' : a ≠ E.locals := Nat.ne_of_gt hLa
  have ha4 : a < s₄.heap.objs.size := Heap.lt_size (up4.heap a o hLa' hao)
  have k5 : Kp s₄ { s₄ with heap := h' } := ⟨kh, rfl, .refl _⟩
  have no1 : ∀ b : Nat, s₄.heap.objs.size ≤ b → h₁.get? b = none := fun b hb => get_none_mono base4 (get_none_of_ge hb)
  obtain ⟨⟨old, he⟩, hit⟩ := id st
  refine wpAny_pyIter_enum he fun p => ?_
  refine gen_loop X g hL1 (no1 _ (Nat.le_succ _)) (no1 _ (Nat.le_refl _)) hLa (Nat.lt_succ_of_lt ha4) ha4 (Nat.succ_ne_self _) b4 b2 ⟨?_, ?_, ?_⟩ rfl rfl ?_ x.cps.size 0 false s { s₄ with heap := h' } (Nat.sub_zero _) (Nat.zero_le _)
    (I4.kp kh) st (((GSince.refl a E.locals s).up up4).kp k5) ⟨[], rfl⟩
  · show (marksOver _ (A.handled, A.handled)).1 = none
    rw [rm.hh]; rfl
  · have := rm.dp; show A.depth + 1 + 0 + 0 < 900; omega
  · have := rm.un; show A.units + 3 + 0 + 30 * 0 < 9000; omega
  · intro esc s₀' s' I' hs' hd
    show GSeg prog w A h₁ _ a E.locals _ s₀' _ ((execs [.If te [y3] [] ip] E).wrap _ _ id id) [] s'
    refine seg_execs_cons (seg_If (test_E X g rm0 b5 I' fun s₆ k6 => ?_))
    cases esc with
    | true =>
      rw [if_pos rfl]
      obtain ⟨done, hT⟩ := hd
      show GSeg prog w A h₁ _ a E.locals (0 + 1) s₀' _ _ _ s₆
      refine seg_execs_cons (y3_seg X g rm0 rfl rfl rfl (I'.kp k6.heap) b6 (tok_here (rest := []) hT) (hs'.kp k6) fun s₇ f7 I7 => ?_)
      exact seg_end (.ok (.ret .none)) ⟨rfl, rfl, .refl _ _ _⟩
    | false =>
      rw [if_neg (by simp)]
      exact seg_end (.ok (.ret .none)) ⟨rfl, rfl, hs'.kp k6⟩
end
end Mine
namespace Mine

theorem FC.trans {L : Addr} {s s' s'' : Shared} (x : FC L s s') (y : FC L s' s'') : FC L s s'' := fun b o e h => y b o (x b o e h) h

structure GA (prog : Program) (w : World) (A : Around) (h₁ : Heap) (T : List (Nat × List Nat)) (a L : Addr) (g j : Nat) (s : Shared) : Prop where
  gen : s.heap.IsGen a g
  ns : ∃ m, s.heap.Ns L m
  gs : ∃ gs, s.gens[g]? = some gs ∧ ∀ s'' : Shared, FC L s s'' → (∀ b o, h₁.get? b = some o → s''.heap.get? b = some o) → gs.Goes (model prog w) A.in1 (gR a L) (gY h₁ T a L) (T.length - j) (.send .none) s''

theorem GX.set {G0 gs : Array GenState} {g : Nat} {y : GenState} (x : GX G0 gs) (h : G0.size ≤ g) (hy : y.bare = true) : GX G0 (gs.setIfInBounds g y) := by
  obtain ⟨l, e, hl⟩ := x
  refine ⟨l.set (g - G0.size) y, ?_, fun z hz => ?_⟩
  · rw [Array.toList_setIfInBounds, e, List.set_append_right _ _ (by simpa using h)]
    simp
  · rcases List.mem_or_eq_of_mem_set hz with h | rfl
    · exact hl z h
    · exact hy

section
variable {prog : Program} {w : World} {A : Around} {Err : Value → Shared → Prop} {h₁ : Heap} {T : List (Nat × List Nat)} {a L : Addr} {g j : Nat} {s : Shared}

theorem GA.frame (x : GA prog w A h₁ T a L g j s) {s' : Shared} (f : FC L s s') (hg : s'.gens[g]? = s.gens[g]?) : GA prog w A h₁ T a L g j s' := by
  obtain ⟨⟨o, nm, qn, ho, hc, hd, hs⟩, ⟨m, hn⟩, gs, h1, h2⟩ := x
  exact ⟨⟨o, nm, qn, f a o ho (.inr ⟨_, hd⟩), hc, hd, hs⟩, ⟨m, hn.at' fun o e => f L o e (.inl rfl)⟩, gs, hg.trans h1, fun s'' f' b' => h2 s'' (f.trans f') b'⟩

/-- what a waking of the reader leaves as it was -/
structure Woke (a L : Addr) (g : Nat) (s s' : Shared) : Prop where
  heap : ∀ b o, (b ≤ a ∨ NoFl o) → b ≠ L → s.heap.get? b = some o → s'.heap.get? b = some o
  os : s'.os = s.os
  gens : ∀ G0 : Array GenState, G0.size ≤ g → GX G0 s.gens → GX G0 s'.gens

theorem gx_lt {G G' : Array GenState} (x : GX G G') {g : Nat} (h : g < G.size) : g < G'.size := by
  obtain ⟨l, e, _⟩ := x
  have := congrArg List.length e
  simp at this
  omega

theorem gen_item (hh : A.handled = none) (hroom : A.depth < 900) (hl : s.heap.NoLimit) (base : ∀ b o, h₁.get? b = some o → s.heap.get? b = some o) (haL : L < a) (x : GA prog w A h₁ T a L g j s) {t : Nat × List Nat} (ht : T[j]? = some t) {Q : Option Value → Shared → Prop}
    (hQ : ∀ v s', (∀ own, RD own s'.heap v (tokD t)) → GA prog w A h₁ T a L g (j + 1) s' → Woke a L g s s' → Q (some v) s') : wpAny (model prog w) A (pyNext (.ref a)) Q Err s := by
  obtain ⟨hg, hns, gs, hgs, hgo⟩ := x
  have hj : j < T.length := (List.getElem?_eq_some_iff.mp ht).1
  obtain ⟨m, hm⟩ : ∃ m, T.length - j = m + 1 := ⟨T.length - j - 1, by omega⟩
  rw [hm] at hgo
  have hglt : g < s.gens.size := by
    rcases Nat.lt_or_ge g s.gens.size with h' | h'
    · exact h'
    · rw [Array.getElem?_eq_none h'] at hgs; cases hgs
  refine next_gen (P := fun n s₀ s₁ => n = 0 ∧ GSince a L s₀ s₁) hh hl (by show A.depth < 1000; omega) hg hgs (hgo _ (fun _ _ e _ => e) base) (fun v s₁ gs' hb hv => ?_) (fun s₁ hp h' hk => ?_)
  · obtain ⟨⟨t', ht', hr⟩, hns', hsi, hkap⟩ := hv
    have hidx : T.length - 1 - (m + 1 - 1) = j := by omega
    rw [hidx, ht] at ht'
    cases ht'
    refine hQ v _ hr ⟨?_, hns', gs', ?_, fun s'' f b => ?_⟩ ⟨hsi.heap, hsi.os, fun G0 h0 hx => ?_⟩
    · obtain ⟨o, nm, qn, ho, r⟩ := hg
      exact ⟨o, nm, qn, hsi.heap a o (.inl (Nat.le_refl _)) (Nat.ne_of_gt haL) ho, r⟩
    · have h1 : g < s₁.gens.size := gx_lt hsi.gens (by show g < (s.gens.setIfInBounds g .running).size; simpa using hglt)
      show (s₁.gens.setIfInBounds g gs')[g]? = some gs'
      simp [h1]
    · have e : T.length - (j + 1) = m := by omega
      rw [e]
      exact hkap s'' f b
    · exact GX.set ((GX.set (y := .running) hx h0 rfl).trans hsi.gens) h0 hb
  · exact absurd hp.1 (Nat.succ_ne_zero m)

theorem gen_done (hh : A.handled = none) (hroom : A.depth < 900) (hl : s.heap.NoLimit) (base : ∀ b o, h₁.get? b = some o → s.heap.get? b = some o) (haL : L < a) (h1L : ∀ b o, h₁.get? b = some o → b < L) (x : GA prog w A h₁ T a L g T.length s) {Q : Option Value → Shared → Prop}
    (hQ : ∀ s', Woke a L g s s' → Q none s') : wpAny (model prog w) A (pyNext (.ref a)) Q Err s := by
  obtain ⟨hg, hns, gs, hgs, hgo⟩ := x
  rw [Nat.sub_self] at hgo
  refine next_gen (P := fun n s₀ s₁ => n = 0 ∧ GSince a L s₀ s₁) hh hl (by show A.depth < 1000; omega) hg hgs (hgo _ (fun _ _ e _ => e) base) (fun v s₁ gs' hb hv => ?_) (fun s₁ hp h' hk => ?_)
  · obtain ⟨⟨t', ht', hr⟩, hns', hsi, hkap⟩ := hv
    exact False.elim (hkap s₁ (fun _ _ e _ => e) fun b o e => hsi.heap b o (.inl (Nat.le_of_lt (Nat.lt_trans (h1L b o e) haL))) (Nat.ne_of_lt (h1L b o e)) (base b o e))
  · exact hQ _ ⟨fun b o h1 h2 e => hk b o (hp.2.heap b o h1 h2 e), hp.2.os, fun G0 h0 hx => GX.set ((GX.set (y := .running) hx h0 rfl).trans hp.2.gens) h0 rfl⟩
end
end Mine
namespace Mine

noncomputable def hideH (h : Heap) (X : Addr → Bool) : Heap := ⟨h.objs.mapIdx fun i o => if X i = true then { o with data := .freed } else o, h.life⟩
theorem hideH_get {h : Heap} {X : Addr → Bool} {b : Addr} : (hideH h X).get? b = if X b = true then none else h.get? b := by
  unfold hideH Heap.get?
  simp only [Array.getElem?_mapIdx]
  cases e : h.objs[b]? with
  | none => simp
  | some o =>
    simp only [Option.map_some]
    by_cases hx : X b = true
    · simp [hx]
    · simp [hx]

noncomputable def flat : D → Bool
  | .none => true
  | .bool _ => true
  | .int _ => true
  | .str _ => true
  | _ => false
noncomputable def flatV : V → Bool
  | .sh d => flat d
  | .ow ds => ds.all flat
noncomputable def cut (ρ : Str → Option V) : Str → Option V := fun z => match ρ z with | some v => if flatV v = true then some v else Option.none | Option.none => Option.none
theorem cut_spec {ρ : Str → Option V} {z : Str} {v : V} (h : cut ρ z = some v) : ρ z = some v ∧ flatV v = true := by
  unfold cut at h
  split at h
  · split at h
    · rename_i e hf; cases h; exact ⟨e, hf⟩
    · cases h
  · cases h

theorem RD.flat {own : List Addr} {h h' : Heap} {v : Value} {d : D} (r : RD own h v d) (f : Mine.flat d = true) : RD own h' v d := by
  cases r with
  | none => exact .none
  | bool b => exact .bool b
  | int i t => exact .int i t
  | str x t => exact .str x t
  | tup _ _ => cases f
  | lst _ _ _ => cases f
  | rng _ => cases f
theorem RDs.flat {own : List Addr} {h h' : Heap} : ∀ {vs : List Value} {ds : List D}, RDs own h vs ds → ds.all Mine.flat = true → RDs own h' vs ds
  | _, _, .nil, _ => .nil
  | _, _, .cons r rs, f => by
    simp only [List.all_cons, Bool.and_eq_true] at f
    exact .cons (r.flat f.1) (rs.flat f.2)

section
variable {h₁ : Heap} {s₀ : Shared} {own₀ : List Addr} {E : Env} {mine : List (Str × Addr)} {ρ : Str → Option V} {m cm : Str → Option Value} {s : Shared}

theorem SV.weak (I : SV h₁ s₀ own₀ E mine ρ m cm s) {ρ' : Str → Option V} (h : ∀ z v, ρ' z = some v → ρ z = some v) : SV h₁ s₀ own₀ E mine ρ' m cm s :=
  { I with
    sh := fun x d e => I.sh x d (h x _ e)
    ow := fun x ds e => I.ow x ds (h x _ e) }

noncomputable def hid (E : Env) (mine : List (Str × Addr)) (b : Addr) : Bool := b == E.locals || E.cells.any (fun p => p.2 == b && E.cells.lookup p.1 == some b) || mine.any (·.2 == b)
noncomputable abbrev hideS (E : Env) (mine : List (Str × Addr)) (s : Shared) : Shared := { s with heap := hideH s.heap (hid E mine) }
theorem hid_cell {x : Str} {c : Addr} (h : E.cells.lookup x = some c) : hid E mine c = true := by
  unfold hid
  have : E.cells.any (fun p => p.2 == c && E.cells.lookup p.1 == some c) = true := List.any_eq_true.mpr ⟨(x, c), mem_of_lookup h, by simp [h]⟩
  simp [this]
theorem hid_spec {b : Addr} (h : hid E mine b = true) : b = E.locals ∨ (∃ x, E.cells.lookup x = some b) ∨ ∃ p ∈ mine, p.2 = b := by
  unfold hid at h
  simp only [Bool.or_eq_true, beq_iff_eq, List.any_eq_true, Bool.and_eq_true] at h
  rcases h with (h | ⟨p, _, _, h⟩) | ⟨p, h1, h2⟩
  · exact .inl h
  · exact .inr (.inl ⟨_, h⟩)
  · exact .inr (.inr ⟨p, h1, h2⟩)
theorem SV.notHid (I : SV h₁ s₀ own₀ E mine ρ m cm s) {b : Addr} {o : Obj} (e : s₀.heap.get? b = some o) : hid E mine b = false := by
  cases h : hid E mine b with
  | false => rfl
  | true =>
    exfalso
    rcases hid_spec h with rfl | ⟨x, hx⟩ | ⟨p, hp, rfl⟩
    · rw [I.freshL] at e; cases e
    · rw [I.freshC x b hx] at e; cases e
    · rw [(I.mlive p hp).1] at e; cases e
theorem SV.toHid (I : SV h₁ s₀ own₀ E mine ρ m cm s) : Kp s₀ (hideS E mine s) :=
  ⟨fun b o e => by show (hideH _ _).get? b = _; rw [hideH_get, I.notHid e]; exact I.k0.heap b o e, I.k0.os, I.k0.gens⟩
theorem SV.reroot (I : SV h₁ s₀ own₀ E mine ρ m cm s) : SV h₁ (hideS E mine s) own₀ E mine ρ m cm s where
  k0 := ⟨fun b o e => by
    have e : (hideH s.heap (hid E mine)).get? b = some o := e
    rw [hideH_get] at e
    split at e
    · cases e
    · exact e, rfl, .refl _⟩
  base := fun b o e => I.toHid.heap b o (I.base b o e)
  kind := I.kind
  globals := I.globals
  builtins := I.builtins
  live₀ := fun a ha => let ⟨o, e⟩ := I.live₀ a ha; ⟨o, I.toHid.heap a o e⟩
  ns := I.ns
  cells := I.cells
  hasc := I.hasc
  apart := I.apart
  freshL := by show (hideH _ _).get? _ = _; rw [hideH_get, if_pos (by simp [hid])]
  freshC := fun x c h => by show (hideH _ _).get? _ = _; rw [hideH_get, if_pos (hid_cell h)]
  mlive := fun p hp => ⟨by
    show (hideH _ _).get? _ = _
    rw [hideH_get, if_pos]
    unfold hid
    have : mine.any (·.2 == p.2) = true := List.any_eq_true.mpr ⟨p, hp, by simp⟩
    simp [this], (I.mlive p hp).2⟩
  muniq := I.muniq
  sh := I.sh
  ow := I.ow
theorem SV.unroot {mine' : List (Str × Addr)} {ρ' : Str → Option V} {m' cm' : Str → Option Value} {s' s₁ : Shared} (I : SV h₁ s₀ own₀ E mine ρ m cm s) (k : Kp s₀ s₁) (I' : SV h₁ s₁ own₀ E mine' ρ' m' cm' s') : SV h₁ s₀ own₀ E mine' ρ' m' cm' s' :=
  { I' with
    k0 := k.trans I'.k0
    base := I.base
    live₀ := I.live₀
    freshL := I.freshL
    freshC := I.freshC
    mlive := fun p hp => ⟨get_none_mono k.heap (I'.mlive p hp).1, (I'.mlive p hp).2⟩ }

/-- the frame over a waking of the reader -/
theorem SV.woke (I : SV h₁ s₀ own₀ E mine ρ m cm s) (fl : ∀ z v, ρ z = some v → flatV v = true) {a L : Addr} {g : Nat} {s' : Shared} (W : Woke a L g s s') (hLL : E.locals ≠ L) (hLc : ∀ x c, E.cells.lookup x = some c → c ≠ L) (hns : ∃ m, s.heap.Ns L m)
    (h0 : ∀ b o, s₀.heap.get? b = some o → b < L) (haL : L < a) (hg : s₀.gens.size ≤ g) : SV h₁ s₀ own₀ E mine ρ m cm s' := by
  have pl : ∀ (b : Addr) vs, s.heap.PlainList b vs → s'.heap.PlainList b vs := fun b vs ⟨n, e⟩ => ⟨n, W.heap b _ (.inr fun vs q => by cases q) (fun q => by
    subst q
    obtain ⟨mL, oL, esL, nL, hoL, hdL, _⟩ := hns
    rw [e] at hoL; cases hoL; cases hdL) e⟩
  refine { I with
    k0 := ⟨fun b o e => W.heap b o (.inl (Nat.le_of_lt (Nat.lt_trans (h0 b o e) haL))) (Nat.ne_of_lt (h0 b o e)) (I.k0.heap b o e), W.os.trans I.k0.os, W.gens _ hg I.k0.gens⟩
    ns := ?_
    cells := fun x c e => ?_
    mlive := fun p hp => ⟨(I.mlive p hp).1, let ⟨vs, h⟩ := (I.mlive p hp).2; ⟨vs, pl _ _ h⟩⟩
    sh := fun x d e => let ⟨v, hv, r⟩ := I.sh x d e; ⟨v, hv, r.flat (fl x _ e)⟩
    ow := fun x ds e => let ⟨b, vs, hv, hm, hp, r⟩ := I.ow x ds e; ⟨b, vs, hv, hm, pl _ _ hp, r.flat (fl x _ e)⟩ }
  · obtain ⟨o, es, n, ho, hd, r⟩ := I.ns
    exact ⟨o, es, n, W.heap _ o (.inr fun vs q => by rw [hd] at q; cases q) hLL ho, hd, r⟩
  · obtain ⟨o, ho, hd⟩ := I.cells x c e
    exact ⟨o, W.heap _ o (.inr fun vs q => by rw [hd] at q; cases q) (hLc x c e) ho, hd⟩
end
end Mine
namespace Mine

/-- the reader, as the top left it -/
structure GenFn (h₁ : Heap) (mg : Str → Option Value) (genf : Str) (fa : Addr) (o : Obj) (nm : Str) (params : Arguments) (body : List Stmt) (scope : Scope) (pm code doc : Value) : Prop where
  ns : h₁.Ns mainGlobals mg
  at_ : mg genf = some (.ref fa)
  obj : h₁.get? fa = some o
  data : o.data = .func (PySem.Calls.docDef nm params body scope pm code doc)
  rec_ : h₁.CodeRec code nm
  gen : isGen body = true
  kind : scope.kind = .function
  co : scope.isCoroutine = false
  isgen : scope.isGenerator = true
  names : scope.names.lookup nA = some .local ∧ scope.names.lookup nP = some .local ∧ scope.names.lookup nE = some .local ∧ scope.names.lookup nC = some .local ∧ scope.names.lookup nEn = some .globalImplicit
  nocell : ∀ x ∈ scope.names, x.2 ≠ .cell
  bind : ∀ v, bindArgs (PySem.Calls.docDef nm params body scope pm code doc) ⟨[v], []⟩ = pure [(nA, v)]

section
variable {prog : Program} {w : World} {h₁ : Heap} {Φ : Str → List D → Option D} {mg : Str → Option Value} {genf : Str} {fa : Addr} {o : Obj} {nm : Str} {params : Arguments} {body : List Stmt} {scope : Scope} {pm code doc : Value}

theorem gen_make (X : Cx prog w h₁ 0 [] Φ) (hen : HasEnum h₁) (G : GenFn h₁ mg genf fa o nm params body scope pm code doc) {A : Around} (rm : Rm A 2) {s : Shared} (hb : ∀ b o, h₁.get? b = some o → s.heap.get? b = some o) {x : Str} {t : Tok} (hasc : x.cps.all (· < 128) = true)
    {Q : Value → Shared → Prop} {Err : Value → Shared → Prop} (hQ : ∀ s', Kp s s' → GA prog w A h₁ (escL 0 false x.cps.toList) (s.heap.objs.size + 1) s.heap.objs.size s.gens.size 0 s' → Q (.ref (s.heap.objs.size + 1)) s') :
    wpAny (model prog w) A (call (.ref fa) [.str x t]) Q Err s := by
  refine wpAny_call (codeAny_call_generator (by have := rm.dp; show A.depth < 1000; omega) (hb _ _ G.obj) G.data G.co G.isgen rfl (G.rec_.keeps hb) ?_)
  rw [G.bind]
  refine wpAny_pure (wpAny_newFunctionEnv G.nocell (fun y hy => ?_) (fun h₀ hns₀ hsb₀ => ⟨(X.nolimit.keeps hb).fresh _ hsb₀, ?_⟩) G.kind)
  · have : y = (nA, .str x t) := by simpa using hy
    rw [this]; exact G.names.1
  have hsz : h₀.objs.size = s.heap.objs.size + 1 := by rw [hsb₀.1, Heap.size_push]
  have k0 : ∀ b o, s.heap.get? b = some o → h₀.get? b = some o := fun b o e => hsb₀.extBut b o (Nat.ne_of_lt (Heap.lt_size e)) (Heap.get?_push_of_some _ e)
  show Q (.ref h₀.objs.size) _
  rw [hsz]
  refine hQ _ ⟨fun b o e => Heap.get?_push_of_some _ (k0 b o e), rfl, ⟨[_], Array.toList_push, fun y hy => ?_⟩⟩ ⟨?_, ⟨_, hns₀.push _⟩, .fresh (.func body (callEnv (PySem.Calls.docDef nm params body scope pm code doc) s.heap.objs.size fa)), ?_, fun s'' f b => ⟨rfl, ?_⟩⟩
  · rw [List.mem_singleton.mp hy]; rfl
  · refine ⟨_, _, _, (?_ : _ = some { cls := .type "generator", data := .fields #[.int s.gens.size 0, .str nm (s.toks + 1), .str nm (s.toks + 1 + 1)] }), rfl, rfl, rfl⟩
    rw [← hsz]; exact Heap.get?_push_size _ rfl
  · exact Array.getElem?_push_size ..
  · refine gen_seg (A := A.in1) (E := callEnv (PySem.Calls.docDef nm params body scope pm code doc) s.heap.objs.size fa) X ⟨G.kind, rfl, rfl, G.co, G.names.1, G.names.2.1, G.names.2.2.1, G.names.2.2.2.1, G.names.2.2.2.2⟩ ?_ hen (Nat.lt_succ_self _) hasc G.gen ⟨rm.hh, ?_, ?_⟩ ?_ ⟨b, fun y => List.lookup y [(nA, Value.str x t)].reverse, t, ?_, ?_⟩
    · exact get_none_mono hb (get_none_of_ge (Nat.le_refl _))
    · have := rm.dp; show A.depth + 1 < 900; omega
    · have := rm.un; show A.units + 1 + 30 * 1 < 9000; omega
    · have hget : (h₀.push { cls := .type "generator", data := .fields #[.int s.gens.size 0, .str nm (s.toks + 1), .str nm (s.toks + 1 + 1)] }).get? (s.heap.objs.size + 1) = some { cls := .type "generator", data := .fields #[.int s.gens.size 0, .str nm (s.toks + 1), .str nm (s.toks + 1 + 1)] } := by
        rw [← hsz]; exact Heap.get?_push_size _ rfl
      exact ⟨_, f _ _ hget (.inr ⟨_, rfl⟩)⟩
    · exact (hns₀.push _).at' fun o e => f _ o e (.inl rfl)
    · rfl
end

section
variable {prog : Program} {w : World} {h₁ : Heap} {k : Nat} {fns : List Str} {Φ : Str → List D → Option D} {A : Around} {s₀ : Shared} {own₀ : List Addr} {E : Env} {ρ : Str → Option V}

theorem XS.weak {ρ' : Str → Option V} {r : FlowD} {ρ₂ : Str → Option V} {t : Sem Flow} (h : ∀ z v, ρ' z = some v → ρ z = some v) (x : XS prog w h₁ s₀ own₀ E A ρ' r ρ₂ t) : XS prog w h₁ s₀ own₀ E A ρ r ρ₂ t :=
  fun mine m cm s Q Err I hq => x mine m cm s Q Err (I.weak h) hq

theorem gx_get {G G' : Array GenState} (x : GX G G') {g : Nat} (h : g < G.size) : G'[g]? = G[g]? := by
  obtain ⟨l, e, _⟩ := x
  rw [← Array.getElem?_toList, ← Array.getElem?_toList, e, List.getElem?_append_left (by simpa using h)]

theorem letGo_plain {t : Expr} {It : Addr} {v : Value} {o : Obj} {n : String} {vs : Array Value} {s : Shared} {Q : Unit → Shared → Prop} {Err : Value → Shared → Prop} (ho : s.heap.get? It = some o) (hc : o.cls = .type n) (hd : o.data = .fields vs) (hn : n = "generator") (h : Q () s) :
    wpAny (model prog w) A (letOwnedTupleGo t (.ref It) v) Q Err s := by
  subst hn
  have go : ∀ a, wpAny (model prog w) A (do
      let o ← load It
      match o.cls, o.data with
      | .type n, .fields vs =>
        if ["enumerate", "zip", "dict_itemiterator", "dict_reverseitemiterator", "odict_iterator", "itertools.zip_longest", "itertools.pairwise"].contains n && vs[0]? == some (rawInt a) then
          rule "for.unpacks-the-owned-tuple"
          updateField It 0 .none
      | _, _ => pure ()) Q Err s := fun a => by
    refine wpAny_bind (wpAny_load ho ?_)
    rw [hc, hd]
    exact wpAny_pure h
  unfold letOwnedTupleGo
  cases t <;> first | exact wpAny_pure h | (cases v <;> first | exact wpAny_pure h | exact go _)

theorem gfor_sound {Φ0 : Str → List D → Option D} (X : Cx prog w h₁ k fns Φ) (X0 : Cx prog w h₁ 0 [] Φ0) (hen : HasEnum h₁) {mg : Str → Option Value} {genf : Str} {fa : Addr} {o : Obj} {nm : Str} {params : Arguments} {gb : List Stmt} {scope : Scope} {pm code doc : Value}
    (G : GenFn h₁ mg genf fa o nm params gb scope pm code doc) (rm : Rm A k) (rm2 : Rm A 2) {t : Expr} {y : Str} {py pf pc : Pos} {body : List Stmt} {pos : Pos} {x : Str} {n : Nat} {bodyf : (Str → Option V) → Option (FlowD × (Str → Option V))} {r : FlowD} {ρ' : Str → Option V}
    (hf : E.scope.names.lookup genf = some .globalImplicit) (hdb : (genf == ("__debug__" : Str)) = false) (hy : ev fns Φ n E.scope.names (shρ ρ) (.Name y py) = some (.str x)) (hasc : x.cps.all (· < 128) = true)
    (hfl : ∀ z v, ρ z = some v → flatV v = true)
    (hbody : ∀ ρ r ρ', bodyf ρ = some (r, ρ') → (r = .next → ∀ z v, ρ' z = some v → flatV v = true) ∧ ∀ s₀, XS prog w h₁ s₀ own₀ E A ρ r ρ' (execs body E))
    (h : forS (asgT E.scope.names t) bodyf ((escL 0 false x.cps.toList).map tokD) ρ = some (r, ρ')) : XS prog w h₁ s₀ own₀ E A ρ r ρ' (exec (.For t (.Call (.Name genf pf) [.Name y py] [] pc) body [] pos) E) := by
  intro mine m cm s Q Err I hq
  refine wpAny_For ?_ (fun _ => rfl)
  refine wpAny_Call_Name_kw (name_glob I.kind hf hdb (Calls.loadGlobal_global (mg := mg) (by rw [I.globals]; exact G.ns.keeps I.base') G.at_ ?_))
  refine callWith_def (o := o) G.data (wpAny_items_cons (ev_sound X n rm _ _ hy s _ _ I.ev fun v s₁ k1 r1 => wpAny_items_nil ⟨(I.kp k1).base' _ _ G.obj, ?_⟩)) rfl
  cases r1 with
  | str _ tx =>
  refine gen_make X0 hen G rm2 (I.kp k1).base' hasc fun s₂ k2 ga => wpAny_pyIter_gen ga.gen ?_
  have I1 := I.kp k1
  have lt1 : ∀ b o, s₁.heap.get? b = some o → b < s₁.heap.objs.size := fun b o e => Heap.lt_size e
  have hLn : s₁.heap.get? s₁.heap.objs.size = none := get_none_of_ge (Nat.le_refl _)
  have haL : s₁.heap.objs.size < s₁.heap.objs.size + 1 := Nat.lt_succ_self _
  have hgs : s₀.gens.size ≤ s₁.gens.size := by
    obtain ⟨l, e, _⟩ := I1.k0.gens
    have := congrArg List.length e
    simp at this; omega
  generalize s₁.heap.objs.size = L at ga lt1 hLn haL
  generalize L + 1 = a at ga haL
  generalize s₁.gens.size = g at ga hgs
  have hLL : E.locals ≠ L := by
    rintro rfl
    obtain ⟨o, _, _, ho, _⟩ := I1.ns
    rw [hLn] at ho; cases ho
  have hLc : ∀ x c, E.cells.lookup x = some c → c ≠ L := by
    rintro x c hx rfl
    obtain ⟨o, ho, _⟩ := I1.cells x c hx
    rw [hLn] at ho; cases ho
  have h0 : ∀ b o, s₀.heap.get? b = some o → b < L := fun b o e => lt1 b o (I1.k0.heap b o e)
  have h1L : ∀ b o, h₁.get? b = some o → b < L := fun b o e => lt1 b o (I1.base' b o e)
  have hsL : ∀ b o, s.heap.get? b = some o → b < L := fun b o e => lt1 b o (k1.heap b o e)
  have wk : ∀ {s' s₃ : Shared}, Woke a L g s' s₃ → KpS (adr mine) s.heap s'.heap → Dm s.heap s'.heap → KpS (adr mine) s.heap s₃.heap ∧ Dm s.heap s₃.heap := fun {s' s₃} W ks dm =>
    ⟨fun b o e hb q1 q2 => W.heap b o (.inl (Nat.le_of_lt (Nat.lt_trans (hsL b o e) haL))) (Nat.ne_of_lt (hsL b o e)) (ks b o e hb q1 q2), fun b o e => by
      obtain ⟨o', e'⟩ := dm b o e
      exact ⟨o', W.heap b o' (.inl (Nat.le_of_lt (Nat.lt_trans (hsL b o e) haL))) (Nat.ne_of_lt (hsL b o e)) e'⟩⟩
  have hdep : A.depth < 900 := by have := rm.dp; omega
  refine codeAny_forLoop_any (fun j s' => ∃ i mine' ρ₁ m' cm', j = (escL 0 false x.cps.toList).length - i ∧ i ≤ (escL 0 false x.cps.toList).length ∧ SV h₁ s₀ own₀ E mine' ρ₁ m' cm' s' ∧ GA prog w A h₁ (escL 0 false x.cps.toList) a L g i s' ∧
    (∀ z v, ρ₁ z = some v → flatV v = true) ∧ KpS (adr mine) s.heap s'.heap ∧ Dm s.heap s'.heap ∧ (∀ b ∈ adr mine', b ∈ adr mine ∨ s.heap.get? b = none) ∧
    forS (asgT E.scope.names t) bodyf (((escL 0 false x.cps.toList).map tokD).drop i) ρ₁ = some (r, ρ')) ?_ (escL 0 false x.cps.toList).length
    ⟨0, mine, ρ, m, cm, rfl, Nat.zero_le _, I1.kp k2, ga, hfl, kpS_of (k1.trans k2).heap _, .of (k1.trans k2).heap, fun b hb => .inl hb, h⟩
  rintro j s' ⟨i, mine', ρ₁, m', cm', rfl, hi, I', ga', fl, ks, dm, hmn, hfor⟩
  by_cases hlt : i < (escL 0 false x.cps.toList).length
  · refine gen_item rm.hh hdep (X.nolimit.keeps I'.base') I'.base' haL ga' (List.getElem?_eq_getElem hlt) fun v s₃ hr ga3 W => ?_
    obtain ⟨ks3, dm3⟩ := wk W ks dm
    have I3 := I'.woke fl W hLL hLc ga'.ns h0 haL hgs
    have I3r := I3.reroot
    obtain ⟨og, _, _, hog, hcg, hdg, _⟩ := ga3.gen
    refine letGo_plain hog hcg hdg rfl ?_
    have hlt' : i < ((escL 0 false x.cps.toList).map tokD).length := by simpa using hlt
    rw [List.drop_eq_getElem_cons hlt', List.getElem_map] at hfor
    unfold forS at hfor
    split at hfor
    · rename_i ρ₂ ha
      refine asgT_sound I3r rm.hh ha (hr _) fun s₄ m₄ cm₄ I4 ks4 dm4 => ?_
      have ks4' : KpS (adr mine) s.heap s₄.heap := ks3.trans ks4 fun a ha => nomatch ha
      have dm4' := dm3.trans dm4
      split at hfor
      · rename_i ρ₃ hb
        obtain ⟨hb1, hb2⟩ := hbody _ _ _ hb
        refine hb2 _ mine' m₄ cm₄ s₄ _ _ I4 fun fl s₅ en => ?_
        obtain ⟨mine₅, m₅, cm₅, I5, ks5, dm5, hm5, rfl⟩ := en
        have hgl : g < s₃.gens.size := by
          obtain ⟨gs, hgs', _⟩ := ga3.gs
          rcases Nat.lt_or_ge g s₃.gens.size with h' | h'
          · exact h'
          · rw [Array.getElem?_eq_none h'] at hgs'; cases hgs'
        have fc : FC L s₃ s₅ := fun b o e hbo => I5.k0.heap b o (by
          show (hideH _ _).get? b = _
          rw [hideH_get, if_neg, e]
          intro hh
          rcases hid_spec hh with rfl | ⟨z, hz⟩ | ⟨p, hp, rfl⟩
          · rcases hbo with q | ⟨vs, q⟩
            · exact hLL q
            · obtain ⟨o', _, _, ho', hd', _⟩ := I3.ns
              rw [e] at ho'; cases ho'; rw [q] at hd'; cases hd'
          · rcases hbo with q | ⟨vs, q⟩
            · exact hLc z b hz q
            · obtain ⟨o', ho', hd'⟩ := I3.cells z b hz
              rw [e] at ho'; cases ho'; rw [q] at hd'; cases hd'
          · obtain ⟨_, vs', nn, hpl⟩ := I3.mlive p hp
            rw [hpl] at e; cases e
            rcases hbo with q | ⟨vs, q⟩
            · obtain ⟨mL, oL, _, _, hoL, hdL, _⟩ := ga3.ns
              rw [← q, hpl] at hoL; cases hoL; cases hdL
            · cases q)
        refine ⟨(escL 0 false x.cps.toList).length - (i + 1), by omega, i + 1, mine₅, ρ₃, m₅, cm₅, rfl, hlt, I3.unroot I3.toHid I5, ga3.frame fc (gx_get I5.k0.gens hgl), hb1 rfl, ks4'.trans ks5 hmn, dm4'.trans dm5, fun b hb => ?_, hfor⟩
        rcases hm5 b hb with q | q
        · exact hmn b q
        · exact .inr (dm4'.none q)
      · rename_i rr ρ₃ hb
        cases hfor
        obtain ⟨hb1, hb2⟩ := hbody _ _ _ hb
        refine hb2 _ mine' m₄ cm₄ s₄ _ _ I4 fun fl s₅ en => ?_
        obtain ⟨mine₅, m₅, cm₅, I5, ks5, dm5, hm5, vv, rfl, hrr⟩ := en
        exact hq _ _ ⟨mine₅, m₅, cm₅, I3.unroot I3.toHid I5, ks4'.trans ks5 hmn, dm4'.trans dm5, (fun b hb => by
          rcases hm5 b hb with q | q
          · exact hmn b q
          · exact .inr (dm4'.none q)), vv, rfl, hrr⟩
      · cases hfor
    · cases hfor
  · have hie : i = (escL 0 false x.cps.toList).length := by omega
    subst hie
    refine gen_done rm.hh hdep (X.nolimit.keeps I'.base') I'.base' haL h1L ga' fun s₃ W => wpAny_execs_nil ?_
    rw [List.drop_of_length_le (by simp)] at hfor
    cases hfor
    obtain ⟨ks3, dm3⟩ := wk W ks dm
    exact hq _ _ ⟨mine', m', cm', I'.woke fl W hLL hLc ga'.ns h0 haL hgs, ks3, dm3, hmn, rfl⟩
end
end Mine
namespace Mine

noncomputable def ex1 (fns : List Str) (Φ : Str → List D → Option D) (muts : List Str) (ns : List (Str × NameKind)) (n : Nat) (ρ : Str → Option V) (st : Stmt) : Option (FlowD × (Str → Option V)) :=
  match st with
  | .If t body orelse _ => (match tst (ev fns Φ n ns (shρ ρ)) t with
    | some true => exS fns Φ muts ns n ρ body
    | some false => exS fns Φ muts ns n ρ orelse
    | Option.none => Option.none)
  | .For t iter body [] _ =>
    (match ev fns Φ n ns (shρ (if isOw ρ iter = true then freeze ρ else ρ)) iter with
    | some d => (match iterD d with
      | some ds => if ds.length ≤ 10000 then forS (asgT ns t) (fun ρ' => exS fns Φ muts ns n ρ' body) ds (if isOw ρ iter = true then freeze ρ else ρ) else Option.none
      | Option.none => Option.none)
    | Option.none => Option.none)
  | st => ex0 fns Φ muts n ns ρ st

noncomputable def cutN : Option (FlowD × (Str → Option V)) → Option (FlowD × (Str → Option V))
  | some (.next, ρ) => some (.next, cut ρ)
  | o => o

/-- a loop over the reader, or not -/
inductive WG : Stmt → Type
  | gen (t : Expr) (f : Str) (pf : Pos) (y : Str) (py pc : Pos) (body : List Stmt) (pos : Pos) : WG (.For t (.Call (.Name f pf) [.Name y py] [] pc) body [] pos)
  | no (st : Stmt) : WG st
noncomputable def wg : (st : Stmt) → WG st
  | .For t (.Call (.Name f pf) [.Name y py] [] pc) body [] pos => .gen t f pf y py pc body pos
  | st => .no st
noncomputable def exGW (fns : List Str) (Φ : Str → List D → Option D) (muts : List Str) (ns : List (Str × NameKind)) (genf : Str) (n : Nat) (ρ : Str → Option V) {st : Stmt} (v : WG st) : Option (FlowD × (Str → Option V)) :=
  WG.casesOn (motive := fun _ _ => Option (FlowD × (Str → Option V))) v
    (fun t f pf y py pc body pos =>
        if f = genf then
          (if ns.lookup f = some NameKind.globalImplicit ∧ (f == ("__debug__" : Str)) = false then
            (match ev fns Φ n ns (shρ (cut ρ)) (.Name y py) with
            | some (.str x) => if x.cps.all (· < 128) = true then forS (asgT ns t) (fun ρ' => cutN (exS fns Φ muts ns n ρ' body)) ((escL 0 false x.cps.toList).map tokD) (cut ρ) else Option.none
            | _ => Option.none)
          else Option.none)
        else ex1 fns Φ muts ns n ρ (.For t (.Call (.Name f pf) [.Name y py] [] pc) body [] pos))
    (fun st => ex1 fns Φ muts ns n ρ st)
/-- statements, and loops over the reader -/
noncomputable def exG (fns : List Str) (Φ : Str → List D → Option D) (muts : List Str) (ns : List (Str × NameKind)) (genf : Str) (n : Nat) : (Str → Option V) → List Stmt → Option (FlowD × (Str → Option V))
  | ρ, [] => some (.next, ρ)
  | ρ, st :: rest =>
    match exGW fns Φ muts ns genf n ρ (wg st) with
    | some (.next, ρ') => exG fns Φ muts ns genf n ρ' rest
    | some (.ret d, ρ') => some (.ret d, ρ')
    | Option.none => Option.none

section
variable {prog : Program} {w : World} {h₁ : Heap} {k : Nat} {fns : List Str} {Φ : Str → List D → Option D} {A : Around} {s₀ : Shared} {own₀ : List Addr} {E : Env} {ρ : Str → Option V}

theorem ex1_sound (X : Cx prog w h₁ k fns Φ) {muts : List Str} (rm : Rm A k) {n : Nat} {st : Stmt} {r₁ : FlowD} {ρ₁ : Str → Option V} (h : ex1 fns Φ muts E.scope.names n ρ st = some (r₁, ρ₁)) : XS prog w h₁ s₀ own₀ E A ρ r₁ ρ₁ (exec st E) := by
  unfold ex1 at h
  split at h
  · have ih : ∀ e d, ev fns Φ n E.scope.names (shρ ρ) e = some d → ∀ own, ES prog w h₁ A own E (shρ ρ) e d := fun e d hd own => ev_sound X n rm e d hd
    split at h
    · rename_i ht
      intro mine m cm s Q Err I hq
      refine wpAny_If (tst_sound rm.zero (fun e d hd => ih e d hd _) ht s _ _ I.ev fun s₁ k1 => ?_)
      rw [if_pos rfl]
      exact exS_sound X rm n ρ _ r₁ ρ₁ h mine m cm s₁ _ _ (I.kp k1) fun fl s' en => hq _ _ (Ends.of_kp k1 en)
    · rename_i ht
      intro mine m cm s Q Err I hq
      refine wpAny_If (tst_sound rm.zero (fun e d hd => ih e d hd _) ht s _ _ I.ev fun s₁ k1 => ?_)
      rw [if_neg (by simp)]
      exact exS_sound X rm n ρ _ r₁ ρ₁ h mine m cm s₁ _ _ (I.kp k1) fun fl s' en => hq _ _ (Ends.of_kp k1 en)
    · cases h
  · split at h
    · rename_i d hd
      split at h
      · rename_i ds hds
        split at h
        · split at hd
          · rename_i ho
            rw [if_pos ho] at h
            exact XS.frozen (for_sound X rm hd hds (fun ρ r ρ' hb => exS_sound X rm n ρ _ r ρ' hb) h)
          · rename_i ho
            rw [if_neg ho] at h
            exact for_sound X rm hd hds (fun ρ r ρ' hb => exS_sound X rm n ρ _ r ρ' hb) h
        · cases h
      · cases h
    · cases h
  · exact ex0_sound X rm h

theorem exG_sound {Φ0 : Str → List D → Option D} (X : Cx prog w h₁ k fns Φ) (X0 : Cx prog w h₁ 0 [] Φ0) (hen : HasEnum h₁) {mg : Str → Option Value} {genf : Str} {fa : Addr} {o : Obj} {nm : Str} {params : Arguments} {gb : List Stmt} {scope : Scope} {pm code doc : Value}
    (G : GenFn h₁ mg genf fa o nm params gb scope pm code doc) (rm : Rm A k) (rm2 : Rm A 2) {muts : List Str} {n : Nat} : ∀ (ρ : Str → Option V) (sts : List Stmt) (r : FlowD) (ρ' : Str → Option V), exG fns Φ muts E.scope.names genf n ρ sts = some (r, ρ') →
      XS prog w h₁ s₀ own₀ E A ρ r ρ' (execs sts E)
  | ρ, [], r, ρ', h => by
    cases h
    intro mine m cm s Q Err I hq
    exact wpAny_execs_nil (hq _ _ ⟨mine, m, cm, I, kpS_of (fun _ _ e => e) _, .of fun _ _ e => e, fun a ha => .inl ha, rfl⟩)
  | ρ, st :: rest, r, ρ', h0 => by
    unfold exG at h0
    have one : ∀ r₁ ρ₁, exGW fns Φ muts E.scope.names genf n ρ (wg st) = some (r₁, ρ₁) → XS prog w h₁ s₀ own₀ E A ρ r₁ ρ₁ (exec st E) := by
      intro r₁ ρ₁ h
      clear h0
      generalize wg st = vv at h
      cases vv <;> dsimp only [exGW] at h
      · split at h
        · rename_i hfg
          subst hfg
          split at h
          · rename_i hc
            split at h
            · rename_i x hx
              split at h
              · rename_i hasc
                refine XS.weak (ρ' := cut ρ) (fun z v e => (cut_spec e).1) (gfor_sound X X0 hen G rm rm2 hc.1 hc.2 hx hasc (fun z v e => (cut_spec e).2) (fun ρ₂ r₂ ρ₃ hb => ?_) h)
                cases hx2 : exS fns Φ muts E.scope.names n ρ₂ _ with
                | none => rw [hx2] at hb; cases hb
                | some q =>
                  rw [hx2] at hb
                  obtain ⟨fl, ρ₄⟩ := q
                  cases fl with
                  | next =>
                    cases hb
                    refine ⟨fun _ z v e => (cut_spec e).2, fun s₀ mine m cm s Q Err I hq => ?_⟩
                    refine exS_sound X rm n _ _ _ _ hx2 mine m cm s _ _ I fun fl s' en => hq _ _ ?_
                    obtain ⟨mine', m', cm', I', r⟩ := en
                    exact ⟨mine', m', cm', I'.weak fun z v e => (cut_spec e).1, r⟩
                  | ret d =>
                    cases hb
                    exact ⟨(fun e => nomatch e), fun s₀ => exS_sound X rm n _ _ _ _ hx2⟩
              · cases h
            · cases h
          · cases h
        · exact ex1_sound X rm h
      · exact ex1_sound X rm h
    split at h0
    · rename_i ρ₁ h1
      exact XS.seq (one _ _ h1) (exG_sound X X0 hen G rm rm2 ρ₁ rest r ρ' h0)
    · rename_i d ρ₁ h1
      cases h0
      exact XS.stop (one _ _ h1)
    · cases h0

theorem Rm.less {A : Around} {k j : Nat} (r : Rm A k) (h : j ≤ k) : Rm A j := ⟨r.hh, by have := r.dp; omega, by have := r.un; omega⟩

/-- one more def whose calls are known -/
theorem Cx.push (X : Cx prog w h₁ k fns Φ) {mg : Str → Option Value} {f : Str} {a : Addr} {o : Obj} {name : Str} {params : Arguments} {body : List Stmt} {scope : Scope} {pm code doc : Value} {ps : List Str} (hns : h₁.Ns mainGlobals mg) (hmg : mg f = some (.ref a))
    (ho : h₁.get? a = some o) (hd : o.data = .func (PySem.Calls.docDef name params body scope pm code doc)) (hc : h₁.CodeRec code name) (hps : ∀ p ∈ ps, scope.names.lookup p = some .local ∨ scope.names.lookup p = some .cell)
    (hk : scope.kind = .function) (hco : scope.isCoroutine = false) (hgen : scope.isGenerator = false)
    (hbind : ∀ vs : List Value, vs.length = ps.length → bindArgs (PySem.Calls.docDef name params body scope pm code doc) ⟨vs, []⟩ = pure (ps.zip vs))
    {K : Nat} (hkK : k < K) {Ψ : List D → Option D} (hΨ : ∀ ds d, Ψ ds = some d → ds.length = ps.length ∧ ∃ ρ', ∀ (own : List Addr) (A : Around) (s₀ : Shared) (E : Env), Rm A (K - 1) → E.scope = scope → XS prog w h₁ s₀ own E A (bindρ ps ds fun _ => Option.none) (.ret d) ρ' (execs body E)) :
    Cx prog w h₁ K (f :: fns) (fun g ds => if g = f then Ψ ds else Φ g ds) where
  nolimit := X.nolimit
  bi := X.bi
  fn := fun g hg => by
    by_cases hgf : g = f
    · subst hgf
      refine ⟨mg, a, o, _, hns, hmg, ho, hd, fun A own s vs ds d Q Err rm hb live hΦ r hq => ?_⟩
      rw [if_pos rfl] at hΦ
      obtain ⟨hlen, ρ', hex⟩ := hΨ ds d hΦ
      have rm' : Rm A (K - 1 + 1) := rm.less (by omega)
      exact def_sound (k := K - 1) X.nolimit ho hd hc hps hk hco hgen hbind rm' hb live hlen (hex own) r hq
    · have hg' : g ∈ fns := (List.mem_cons.mp hg).resolve_left hgf
      obtain ⟨mg', a', o', fd', h1, h2, h3, h4, h5⟩ := X.fn g hg'
      refine ⟨mg', a', o', fd', h1, h2, h3, h4, fun A own s vs ds d Q Err rm hb live hΦ r hq => ?_⟩
      rw [if_neg hgf] at hΦ
      exact h5 A own s vs ds d Q Err (rm.less (by omega)) hb live hΦ r hq
theorem Cx.less (X : Cx prog w h₁ k fns Φ) {Φ' : Str → List D → Option D} (h : ∀ f ∈ fns, ∀ ds d, Φ' f ds = some d → Φ f ds = some d) : Cx prog w h₁ k fns Φ' where
  nolimit := X.nolimit
  bi := X.bi
  fn := fun g hg => by
    obtain ⟨mg', a', o', fd', h1, h2, h3, h4, h5⟩ := X.fn g hg
    exact ⟨mg', a', o', fd', h1, h2, h3, h4, fun A own s vs ds d Q Err rm hb live hΦ r hq => h5 A own s vs ds d Q Err rm hb live (h g hg ds d hΦ) r hq⟩
theorem Cx.nil (X : Cx prog w h₁ k fns Φ) {Φ' : Str → List D → Option D} : Cx prog w h₁ 0 [] Φ' := ⟨X.nolimit, fun f hf => (nomatch hf), X.bi⟩
end

/-- what a def with loops over the reader gives -/
noncomputable def defG (fns : List Str) (Φ : Str → List D → Option D) (muts : List Str) (genf : Str) (n : Nat) (names : List (Str × NameKind)) (ps : List Str) (body : List Stmt) (ds : List D) : Option D :=
  if ds.length = ps.length then (match exG fns Φ muts names genf n (bindρ ps ds fun _ => Option.none) body with | some (.ret d, _) => some d | _ => Option.none) else Option.none
theorem defG_spec {fns : List Str} {Φ : Str → List D → Option D} {muts : List Str} {genf : Str} {n : Nat} {names : List (Str × NameKind)} {ps : List Str} {body : List Stmt} {ds : List D} {d : D} (h : defG fns Φ muts genf n names ps body ds = some d) :
    ds.length = ps.length ∧ ∃ ρ', exG fns Φ muts names genf n (bindρ ps ds fun _ => Option.none) body = some (.ret d, ρ') := by
  unfold defG at h
  split at h
  · rename_i hl
    split at h
    · rename_i d' ρ' he; cases h; exact ⟨hl, ρ', he⟩
    · cases h
  · cases h
end Mine
namespace Mine

/-- the record of a def's statement -/
noncomputable def recD : Stmt → Option DefRec
  | .FunctionDef name a b _ _ _ sc _ _ pos => some ⟨name, a, b, sc, pos⟩
  | _ => Option.none
noncomputable def recs : List DefRec := PySem.Challenge.pw_pe0045_01.main.body.filterMap recD
theorem recs_len : recs.length = 10 := by decide +kernel
noncomputable def rc (i : Fin 10) : DefRec := recs.get ⟨i.1, by rw [recs_len]; exact i.2⟩
theorem rc_mem (i : Fin 10) : rc i ∈ recs := List.get_mem ..

noncomputable abbrev fGen : Str := Str.ofString "_iter_escaped_chars"
noncomputable abbrev fStrip : Str := Str.ofString "_strip_quoted_realnames"
noncomputable abbrev fCheck : Str := Str.ofString "_check_parenthesis"
noncomputable abbrev fText : Str := Str.ofString "_law_text"
noncomputable abbrev fMate : Str := Str.ofString "_law_mate"
noncomputable abbrev fHook : Str := Str.ofString "_law_hook"
noncomputable abbrev fArcs : Str := Str.ofString "_law_arcs"
noncomputable abbrev fStrands : Str := Str.ofString "_law_strands"
noncomputable abbrev fRun : Str := Str.ofString "_law_run"
noncomputable abbrev fLaw : Str := Str.ofString "law"

structure Facts (mg mb : Str → Option Value) (h₁ : Heap) : Prop where
  g : h₁.Ns mainGlobals mg
  b : h₁.Ns builtinsNs mb
  nolimit : h₁.NoLimit
  fn : ∀ d ∈ recs, ∃ a o pm code doc, mg d.name = some (.ref a) ∧ h₁.get? a = some o ∧ o.data = .func (PySem.Calls.docDef d.name d.params d.body d.scope pm code doc) ∧ h₁.CodeRec code d.name
  free : ∀ x ∈ ("enumerate" :: bnames), mg (Str.ofString x) = none
  bi : ∀ x ∈ ("enumerate" :: bnames), mb (Str.ofString x) = bootBuiltins (Str.ofString x)

theorem boot_names : ∀ b ∈ bnames, bootBuiltins (Str.ofString b) = some (builtinVal b) := by
  intro b hb
  simp only [bnames, List.mem_cons, List.not_mem_nil, or_false] at hb
  rcases hb with rfl | rfl | rfl | rfl | rfl <;> kernel_rfl
theorem boot_enum : bootBuiltins nEn = some (.type "enumerate") := by kernel_rfl

/-- a def of a plain kind: its parameters' names, none with a default -/
noncomputable def plainDef (d : DefRec) (ps : List Str) : Bool :=
  d.scope.kind == .function && !d.scope.isCoroutine && !d.scope.isGenerator && ps.all fun p => d.scope.names.lookup p == some .local || d.scope.names.lookup p == some .cell

section
variable {mg mb : Str → Option Value} {h₁ : Heap} {prog : Program} {w : World}

theorem Facts.cx (F : Facts mg mb h₁) (Φ : Str → List D → Option D) : Cx prog w h₁ 0 [] Φ :=
  ⟨F.nolimit, fun f hf => (nomatch hf), fun b hb => ⟨mg, mb, F.g, F.free b (List.mem_cons_of_mem _ hb), F.b, (F.bi b (List.mem_cons_of_mem _ hb)).trans (boot_names b hb)⟩⟩
theorem Facts.enum (F : Facts mg mb h₁) : HasEnum h₁ := ⟨mg, mb, F.g, F.free "enumerate" List.mem_cons_self, F.b, (F.bi "enumerate" List.mem_cons_self).trans boot_enum⟩

theorem Facts.gen (F : Facts mg mb h₁) : ∃ fa o pm code doc, GenFn h₁ mg fGen fa o (rc 0).name (rc 0).params (rc 0).body (rc 0).scope pm code doc := by
  obtain ⟨fa, o, pm, code, doc, h1, h2, h3, h4⟩ := F.fn _ (rc_mem 0)
  have hn : (rc 0).name = fGen := by decide +kernel
  refine ⟨fa, o, pm, code, doc, F.g, by rw [← hn]; exact h1, h2, h3, h4, by decide +kernel, by decide +kernel, by decide +kernel, by decide +kernel, by decide +kernel, by decide +kernel, fun v => by kernel_rfl⟩

theorem Facts.push (F : Facts mg mb h₁) {k : Nat} {fns : List Str} {Φ : Str → List D → Option D} (X : Cx prog w h₁ k fns Φ) (i : Fin 10) {f : Str} {ps : List Str} (hn : (rc i).name = f) (hp : plainDef (rc i) ps = true)
    (hbind : ∀ (pm code doc : Value) (vs : List Value), vs.length = ps.length → bindArgs (PySem.Calls.docDef (rc i).name (rc i).params (rc i).body (rc i).scope pm code doc) ⟨vs, []⟩ = pure (ps.zip vs))
    {K : Nat} (hkK : k < K) {Ψ : List D → Option D} (hΨ : ∀ ds d, Ψ ds = some d → ds.length = ps.length ∧ ∃ ρ', ∀ (own : List Addr) (A : Around) (s₀ : Shared) (E : Env), Rm A (K - 1) → E.scope = (rc i).scope →
      XS prog w h₁ s₀ own E A (bindρ ps ds fun _ => Option.none) (.ret d) ρ' (execs (rc i).body E)) :
    Cx prog w h₁ K (f :: fns) (fun g ds => if g = f then Ψ ds else Φ g ds) := by
  obtain ⟨fa, o, pm, code, doc, h1, h2, h3, h4⟩ := F.fn _ (rc_mem i)
  simp only [plainDef, Bool.and_eq_true, Bool.not_eq_true', beq_iff_eq, List.all_eq_true, Bool.or_eq_true] at hp
  exact X.push F.g (hn ▸ h1) h2 h3 h4 hp.2 hp.1.1.1 hp.1.1.2 hp.1.2 (hbind pm code doc) hkK hΨ

/-- by the plain evaluator -/
theorem Facts.pushS (F : Facts mg mb h₁) {k : Nat} {fns : List Str} {Φ : Str → List D → Option D} (X : Cx prog w h₁ k fns Φ) (i : Fin 10) {f : Str} {ps : List Str} (hn : (rc i).name = f) (hp : plainDef (rc i) ps = true)
    (hbind : ∀ (pm code doc : Value) (vs : List Value), vs.length = ps.length → bindArgs (PySem.Calls.docDef (rc i).name (rc i).params (rc i).body (rc i).scope pm code doc) ⟨vs, []⟩ = pure (ps.zip vs)) (muts : List Str) (n : Nat) :
    Cx prog w h₁ (k + 1) (f :: fns) (fun g ds => if g = f then defD fns Φ muts n (rc i).scope.names ps (rc i).body ds else Φ g ds) :=
  F.push X i hn hp hbind (Nat.lt_succ_self k) fun ds d h => by
    obtain ⟨hl, ρ', he⟩ := defD_spec h
    refine ⟨hl, ρ', fun own A s₀ E rm hE => ?_⟩
    rw [← hE] at he
    exact exS_sound X rm n _ _ _ _ he
/-- by the evaluator with loops over the reader -/
theorem Facts.pushG (F : Facts mg mb h₁) {k : Nat} {fns : List Str} {Φ : Str → List D → Option D} (X : Cx prog w h₁ k fns Φ) (hk2 : 2 ≤ k) (i : Fin 10) {f : Str} {ps : List Str} (hn : (rc i).name = f) (hp : plainDef (rc i) ps = true)
    (hbind : ∀ (pm code doc : Value) (vs : List Value), vs.length = ps.length → bindArgs (PySem.Calls.docDef (rc i).name (rc i).params (rc i).body (rc i).scope pm code doc) ⟨vs, []⟩ = pure (ps.zip vs)) (muts : List Str) (n : Nat) :
    Cx prog w h₁ (k + 1) (f :: fns) (fun g ds => if g = f then defG fns Φ muts fGen n (rc i).scope.names ps (rc i).body ds else Φ g ds) :=
  F.push X i hn hp hbind (Nat.lt_succ_self k) fun ds d h => by
    obtain ⟨hl, ρ', he⟩ := defG_spec h
    refine ⟨hl, ρ', fun own A s₀ E rm hE => ?_⟩
    rw [← hE] at he
    obtain ⟨fa, o, pm, code, doc, G⟩ := F.gen
    exact exG_sound X (F.cx Φ) F.enum G rm (rm.less hk2) _ _ _ _ he
end

theorem len1 {vs : List Value} (h : vs.length = 1) : ∃ a, vs = [a] := by
  match vs, h with
  | [a], _ => exact ⟨a, rfl⟩
theorem len2 {vs : List Value} (h : vs.length = 2) : ∃ a b, vs = [a, b] := by
  match vs, h with
  | [a, b], _ => exact ⟨a, b, rfl⟩
theorem len3 {vs : List Value} (h : vs.length = 3) : ∃ a b c, vs = [a, b, c] := by
  match vs, h with
  | [a, b, c], _ => exact ⟨a, b, c, rfl⟩

noncomputable def psA : List Str := [Str.ofString "addr"]
noncomputable def psText : List Str := [Str.ofString "row", Str.ofString "dress", Str.ofString "places"]
noncomputable def psMate : List Str := [Str.ofString "row", Str.ofString "dress", Str.ofString "i"]
noncomputable def psArcs : List Str := [Str.ofString "row"]
noncomputable def psStrands : List Str := [Str.ofString "arcs", Str.ofString "hooks"]
noncomputable def psRun : List Str := [Str.ofString "row", Str.ofString "dress", Str.ofString "hooks"]
noncomputable def psLaw : List Str := [Str.ofString "script"]

noncomputable abbrev Bnd (i : Fin 10) (ps : List Str) : Prop := ∀ (pm code doc : Value) (vs : List Value), vs.length = ps.length → bindArgs (PySem.Calls.docDef (rc i).name (rc i).params (rc i).body (rc i).scope pm code doc) ⟨vs, []⟩ = pure (ps.zip vs)
theorem bnd1 : Bnd 1 psA := fun pm code doc vs h => by obtain ⟨a, rfl⟩ := len1 h; kernel_rfl
theorem bnd2 : Bnd 2 psA := fun pm code doc vs h => by obtain ⟨a, rfl⟩ := len1 h; kernel_rfl
theorem bnd3 : Bnd 3 psText := fun pm code doc vs h => by obtain ⟨a, b, c, rfl⟩ := len3 h; kernel_rfl
theorem bnd4 : Bnd 4 psMate := fun pm code doc vs h => by obtain ⟨a, b, c, rfl⟩ := len3 h; kernel_rfl
theorem bnd5 : Bnd 5 psMate := fun pm code doc vs h => by obtain ⟨a, b, c, rfl⟩ := len3 h; kernel_rfl
theorem bnd6 : Bnd 6 psArcs := fun pm code doc vs h => by obtain ⟨a, rfl⟩ := len1 h; kernel_rfl
theorem bnd7 : Bnd 7 psStrands := fun pm code doc vs h => by obtain ⟨a, b, rfl⟩ := len2 h; kernel_rfl
theorem bnd8 : Bnd 8 psRun := fun pm code doc vs h => by obtain ⟨a, b, c, rfl⟩ := len3 h; kernel_rfl
theorem bnd9 : Bnd 9 psLaw := fun pm code doc vs h => by obtain ⟨a, rfl⟩ := len1 h; kernel_rfl
end Mine
namespace Mine

noncomputable abbrev Fn := Str → List D → Option D
noncomputable def Φ0 : Fn := fun _ _ => Option.none
noncomputable def mStrip : List Str := [Str.ofString "result"]
noncomputable def Φ1 : Fn := fun g ds => if g = fStrip then defG [] Φ0 mStrip fGen 20 (rc 1).scope.names psA (rc 1).body ds else Φ0 g ds
noncomputable def Φ2 : Fn := fun g ds => if g = fCheck then defG [fStrip] Φ1 [] fGen 20 (rc 2).scope.names psA (rc 2).body ds else Φ1 g ds
noncomputable def Φ3 : Fn := fun g ds => if g = fText then defD [fCheck, fStrip] Φ2 [] 20 (rc 3).scope.names psText (rc 3).body ds else Φ2 g ds

section
variable {mg mb : Str → Option Value} {h₁ : Heap} {prog : Program} {w : World}
theorem Facts.cx2 (F : Facts mg mb h₁) : Cx prog w h₁ 2 [] Φ0 := ⟨F.nolimit, fun f hf => (nomatch hf), (F.cx (prog := prog) (w := w) Φ0).bi⟩
theorem Facts.x1 (F : Facts mg mb h₁) : Cx prog w h₁ 3 [fStrip] Φ1 := F.pushG F.cx2 (Nat.le_refl _) 1 (by decide +kernel) (by decide +kernel) bnd1 mStrip 20
theorem Facts.x2 (F : Facts mg mb h₁) : Cx prog w h₁ 4 [fCheck, fStrip] Φ2 := F.pushG F.x1 (by omega) 2 (by decide +kernel) (by decide +kernel) bnd2 [] 20
theorem Facts.x3 (F : Facts mg mb h₁) : Cx prog w h₁ 5 [fText, fCheck, fStrip] Φ3 := F.pushS F.x2 3 (by decide +kernel) (by decide +kernel) bnd3 [] 20
end

noncomputable def kinds : List Str := [Str.ofString "", Str.ofString "\\)", Str.ofString "", Str.ofString "\")\"", Str.ofString "", Str.ofString "\\\\", Str.ofString "\\\""]
noncomputable def dress (k : Nat) : D := .lst ((List.range 6).map fun j => .str ((kinds[(k + j) % 7]?).getD ⟨#[]⟩))
noncomputable def rowS : List Str := [Str.ofString "()()()", Str.ofString "()(())", Str.ofString "(())()", Str.ofString "(()())", Str.ofString "((()))"]
noncomputable def row (r : Nat) : D := .str (rowS[r]?.getD ⟨#[]⟩)
noncomputable def mateL : List (List Int) := [[1, 0, 3, 2, 5, 4], [1, 0, 5, 4, 3, 2], [3, 2, 1, 0, 5, 4], [5, 2, 1, 4, 3, 0], [5, 4, 3, 2, 1, 0]]
noncomputable def mateT (r i : Nat) : Int := ((mateL[r]?).getD [])[i]?.getD (-7)
end Mine
namespace Mine

/-- a def's value of one argument that may be lacking -/
noncomputable def app1 (f : List D → Option D) (x : Option D) : Option D :=
  match (match x, (some [] : Option (List D)) with | some d, some ds => some (d :: ds) | _, _ => Option.none) with
  | some ds => f ds
  | _ => Option.none
theorem app1_some {f : List D → Option D} {x : Option D} {d : D} (h : x = some d) : app1 f x = f [d] := by rw [h]; rfl

/-- parts of statements and expressions -/
noncomputable def bAt (l : List Stmt) (i : Nat) : Stmt := l[i]?.getD (.Pass ⟨0, 0, 0, 0⟩)
noncomputable def nox : Expr := .Name ⟨#[]⟩ ⟨0, 0, 0, 0⟩
noncomputable def fT : Stmt → Expr | .For t _ _ _ _ => t | _ => nox
noncomputable def fI : Stmt → Expr | .For _ i _ _ _ => i | _ => nox
noncomputable def fB : Stmt → List Stmt | .For _ _ b _ _ => b | _ => []
noncomputable def fP : Stmt → Pos | .For _ _ _ _ p => p | _ => ⟨0, 0, 0, 0⟩
noncomputable def iT : Stmt → Expr | .If t _ _ _ => t | _ => nox
noncomputable def iB : Stmt → List Stmt | .If _ b _ _ => b | _ => []
noncomputable def iP : Stmt → Pos | .If _ _ _ p => p | _ => ⟨0, 0, 0, 0⟩
noncomputable def cL : Expr → Expr | .Compare l _ _ _ => l | _ => nox
noncomputable def cR : Expr → Expr | .Compare _ _ (r :: _) _ => r | _ => nox
noncomputable def cP : Expr → Pos | .Compare _ _ _ p => p | _ => ⟨0, 0, 0, 0⟩
noncomputable def aV : Stmt → Expr | .Assign _ v _ => v | _ => nox
noncomputable def aX : Stmt → Pos | .Assign [.Name _ p] _ _ => p | _ => ⟨0, 0, 0, 0⟩
noncomputable def aP : Stmt → Pos | .Assign _ _ p => p | _ => ⟨0, 0, 0, 0⟩
noncomputable def lE : Expr → Expr | .ListComp e _ _ _ => e | _ => nox
noncomputable def lPx : Expr → Pos | .ListComp _ [⟨.Name _ p, _, _, _⟩] _ _ => p | _ => ⟨0, 0, 0, 0⟩
noncomputable def lI : Expr → Expr | .ListComp _ [⟨_, i, _, _⟩] _ _ => i | _ => nox
noncomputable def lF : Expr → List Expr | .ListComp _ [⟨_, _, f, _⟩] _ _ => f | _ => []
noncomputable def lS : Expr → Scope | .ListComp _ _ s _ => s | _ => { kind := .function, names := [], isGenerator := false, isCoroutine := false }
noncomputable def lP : Expr → Pos | .ListComp _ _ _ p => p | _ => ⟨0, 0, 0, 0⟩
noncomputable def rE : Stmt → Expr | .Return (some e) _ => e | _ => nox
noncomputable def rP : Stmt → Pos | .Return _ p => p | _ => ⟨0, 0, 0, 0⟩
noncomputable def jA : Expr → Expr | .Call _ (a :: _) _ _ => a | _ => nox
noncomputable def jP : Expr → Pos | .Call _ _ _ p => p | _ => ⟨0, 0, 0, 0⟩
noncomputable def jK : Expr → Nat | .Call (.Attribute (.Constant _ k _) _ _) _ _ _ => k | _ => 0
noncomputable def jC : Expr → Pos | .Call (.Attribute (.Constant _ _ p) _ _) _ _ _ => p | _ => ⟨0, 0, 0, 0⟩
noncomputable def jT : Expr → Pos | .Call (.Attribute _ _ p) _ _ _ => p | _ => ⟨0, 0, 0, 0⟩

/-- a comprehension, its items known one by one -/
theorem compL_filter {f : D → Option (Option D)} {p : D → Bool} {g : D → D} : ∀ {ds : List D}, (∀ it ∈ ds, f it = if p it = true then some (some (g it)) else some Option.none) → compL f ds = some ((ds.filter p).map g)
  | [], _ => rfl
  | d :: ds, h => by
    have h1 := h d List.mem_cons_self
    have h2 := compL_filter (ds := ds) fun it hi => h it (List.mem_cons_of_mem _ hi)
    unfold compL
    rw [h1, h2]
    by_cases q : p d = true
    · simp [q]
    · simp [q]
theorem ev_compF {fns : List Str} {Φ : Fn} {n : Nat} {ns : List (Str × NameKind)} {ρ : Str → Option D} {elt iter : Expr} {x : Str} {px pos : Pos} {ifs : List Expr} {scope : Scope} {d : D} {ds : List D} (p : D → Bool) (g : D → D)
    (hok : compOk ns ρ scope x = true) (hi : ev fns Φ n ns ρ iter = some d) (hds : iterD d = some ds) (hlen : ds.length ≤ 10000)
    (ht : ∀ it ∈ ds, ifsT (ev fns Φ n (relNames ns scope) (compρ ρ scope x it)) ifs = some (p it)) (he : ∀ it ∈ ds, p it = true → ev fns Φ n (relNames ns scope) (compρ ρ scope x it) elt = some (g it)) :
    ev fns Φ (n + 1) ns ρ (.ListComp elt [⟨.Name x px, iter, ifs, 0⟩] scope pos) = some (.lst ((ds.filter p).map g)) := by
  show evW fns Φ (ev fns Φ n) ns ρ (.comp elt x px iter ifs scope pos) = _
  dsimp only [evW]
  rw [if_pos hok, hi]
  simp only [hds, if_pos hlen]
  rw [compL_filter (p := p) (g := g)]
  intro it hit
  rw [ht it hit]
  by_cases q : p it = true
  · rw [q, if_pos rfl, he it hit q]
  · have : p it = false := by simpa using q
    rw [this, if_neg (by simp)]
/-- the same without a test -/
theorem ev_compA {fns : List Str} {Φ : Fn} {n : Nat} {ns : List (Str × NameKind)} {ρ : Str → Option D} {elt iter : Expr} {x : Str} {px pos : Pos} {scope : Scope} {d : D} {ds : List D} (g : D → D)
    (hok : compOk ns ρ scope x = true) (hi : ev fns Φ n ns ρ iter = some d) (hds : iterD d = some ds) (hlen : ds.length ≤ 10000)
    (he : ∀ it ∈ ds, ev fns Φ n (relNames ns scope) (compρ ρ scope x it) elt = some (g it)) :
    ev fns Φ (n + 1) ns ρ (.ListComp elt [⟨.Name x px, iter, [], 0⟩] scope pos) = some (.lst (ds.map g)) := by
  have := ev_compF (px := px) (pos := pos) (ifs := []) (fun _ => true) g hok hi hds hlen (fun it hit => rfl) fun it hit _ => he it hit
  rw [List.filter_eq_self.mpr fun _ _ => rfl] at this
  exact this
theorem ev_join {fns : List Str} {Φ : Fn} {n : Nat} {ns : List (Str × NameKind)} {ρ : Str → Option D} {sep m : Str} {k : Nat} {p apos pos : Pos} {a : Expr} {ds : List D} (hm : m = Str.ofString "join") (hp : (apos.endLine == pos.line) = true) (hs : notStar a = true) (h : ev fns Φ n ns ρ a = some (.lst ds)) :
    ev fns Φ (n + 1) ns ρ (.Call (.Attribute (.Constant (.str sep) k p) m apos) [a] [] pos) = joinD sep ds := by
  show evW fns Φ (ev fns Φ n) ns ρ (.join sep k p m apos a pos) = _
  dsimp only [evW]
  rw [if_pos ⟨hm, hp, hs⟩, h]
theorem exS_ret {fns : List Str} {Φ : Fn} {muts : List Str} {n : Nat} {ns : List (Str × NameKind)} {ρ : Str → Option V} {e : Expr} {p : Pos} {d : D} (h : ev fns Φ n ns (shρ (freeze ρ)) e = some d) : exS fns Φ muts ns (n + 1) ρ [.Return (some e) p] = some (.ret d, freeze ρ) := by
  unfold exS
  show (match (match ev fns Φ n ns (shρ (freeze ρ)) e with | some d => some (FlowD.ret d, freeze ρ) | Option.none => Option.none) with
    | some (.next, ρ') => exS fns Φ muts ns n ρ' []
    | some (.ret d, ρ') => some (.ret d, ρ')
    | Option.none => Option.none) = _
  rw [h]

noncomputable abbrev nRow : Str := Str.ofString "row"
noncomputable abbrev nDress : Str := Str.ofString "dress"
noncomputable abbrev nPl : Str := Str.ofString "places"
noncomputable abbrev nK : Str := Str.ofString "k"

/-! The text -/
noncomputable def b3 : List Stmt := (rc 3).body
noncomputable abbrev ns3 : List (Str × NameKind) := (rc 3).scope.names
noncomputable def j3 : Expr := rE (bAt b3 0)
noncomputable def c3 : Expr := jA j3
theorem b3_eq : (rc 3).body = [.Return (some (.Call (.Attribute (.Constant (.str ⟨#[]⟩) (jK j3) (jC j3)) (Str.ofString "join") (jT j3)) [.ListComp (lE c3) [⟨.Name nK (lPx c3), lI c3, [], 0⟩] (lS c3) (lP c3)] [] (jP j3))) (rP (bAt b3 0))] := by kernel_rfl
theorem j3_line : ((jT j3).endLine == (jP j3).line) = true := by kernel_rfl
noncomputable abbrev fr3 (R Δ P : D) : Str → Option V := bindρ psText [R, Δ, P] fun _ => Option.none
theorem t3_ok (R Δ P : D) : compOk ns3 (shρ (freeze (fr3 R Δ P))) (lS c3) nK = true := by kernel_rfl
theorem t3_it (Φ : Fn) (R Δ P : D) : ev [fCheck, fStrip] Φ 17 ns3 (shρ (freeze (fr3 R Δ P))) (lI c3) = some P := by kernel_rfl
noncomputable def cellO (R Δ j : D) : Option D := match (match Δ, j with | v, i => idxD v i), (match R, j with | v, i => idxD v i) with | some a, some b => binD .Add a b | _, _ => Option.none
theorem t3_el (Φ : Fn) (R Δ P j : D) : ev [fCheck, fStrip] Φ 17 (relNames ns3 (lS c3)) (compρ (shρ (freeze (fr3 R Δ P))) (lS c3) nK j) (lE c3) = cellO R Δ j := by kernel_rfl
theorem text_def (Φ : Fn) {R Δ P t : D} {ds : List D} (hi : iterD P = some ds) (hl : ds.length ≤ 10000) (g : D → D) (hc : ∀ it ∈ ds, cellO R Δ it = some (g it)) (hj : joinD ⟨#[]⟩ (ds.map g) = some t) :
    defD [fCheck, fStrip] Φ [] 20 ns3 psText (rc 3).body [R, Δ, P] = some t := by
  have e := ev_join (fns := [fCheck, fStrip]) (Φ := Φ) (sep := ⟨#[]⟩) (k := jK j3) (p := jC j3) rfl j3_line rfl (ev_compA (px := lPx c3) (pos := lP c3) (elt := lE c3) g (t3_ok R Δ P) (t3_it Φ R Δ P) hi hl fun it hit => (t3_el Φ R Δ P it).trans (hc it hit))
  unfold defD
  rw [if_pos (show [R, Δ, P].length = psText.length from rfl), b3_eq, exS_ret (e.trans hj)]
end Mine
namespace Mine

mutual
noncomputable def D.beq : D → D → Bool
  | .none => fun b => match b with | .none => true | _ => false
  | .bool a => fun b => match b with | .bool c => a == c | _ => false
  | .int a => fun b => match b with | .int c => a == c | _ => false
  | .str a => fun b => match b with | .str c => a == c | _ => false
  | .tup a => fun b => match b with | .tup c => D.beqs a c | _ => false
  | .lst a => fun b => match b with | .lst c => D.beqs a c | _ => false
  | .rng _ _ _ => fun _ => false
noncomputable def D.beqs : List D → List D → Bool
  | [] => fun b => match b with | [] => true | _ => false
  | a :: as => fun b => match b with | [] => false | c :: cs => D.beq a c && D.beqs as cs
end
theorem no_ft {p : Prop} (h : false = true) : p := nomatch h
mutual
theorem D.beq_eq : ∀ {a b : D}, D.beq a b = true → a = b
  | .none, b, h => by cases b <;> first | rfl | exact no_ft h
  | .bool a, b, h => by cases b <;> first | exact congrArg D.bool (eq_of_beq h) | exact no_ft h
  | .int a, b, h => by cases b <;> first | exact congrArg D.int (eq_of_beq h) | exact no_ft h
  | .str a, b, h => by cases b <;> first | exact congrArg D.str (eq_of_beq h) | exact no_ft h
  | .tup a, b, h => by cases b <;> first | exact no_ft h | exact congrArg D.tup (D.beqs_eq h)
  | .lst a, b, h => by cases b <;> first | exact no_ft h | exact congrArg D.lst (D.beqs_eq h)
  | .rng _ _ _, _, h => no_ft h
theorem D.beqs_eq : ∀ {a b : List D}, D.beqs a b = true → a = b
  | [], b, h => by cases b <;> first | rfl | exact no_ft h
  | a :: as, b, h => by
    cases b with
    | nil => exact no_ft h
    | cons c cs =>
      have h := Bool.and_eq_true_iff.mp h
      rw [D.beq_eq h.1, D.beqs_eq h.2]
end
noncomputable def isD (o : Option D) (d : D) : Bool := match o with | some x => D.beq x d | Option.none => false
theorem isD_eq {o : Option D} {d : D} (h : isD o d = true) : o = some d := by
  unfold isD at h
  split at h
  · rw [D.beq_eq h]
  · cases h

/-! The texts: each place is a dress and a bracket -/
/-- the dress t, a bracket of code c behind it -/
noncomputable def cell (q : Nat × Nat) : D := .str ⟨(((kinds[q.2]?).getD ⟨#[]⟩).cps.toList ++ [q.1]).toArray⟩
noncomputable def txt (l : List (Nat × Nat)) : Option D := joinD ⟨#[]⟩ (l.map cell)
/-- brackets, their dresses by turns from s on -/
noncomputable def wl (w : List Nat) (s : Nat) : List (Nat × Nat) := (List.range w.length).map fun p => ((w[p]?).getD 0, (s + p) % 7)
noncomputable def br (r j : Nat) : Nat := (((rowS[r]?).getD ⟨#[]⟩).cps[j]?).getD 0
noncomputable def cellsOk (k : Nat) : Bool := (List.range 5).all fun r => (List.range 6).all fun j => isD (cellO (row r) (dress k) (.int (j : Nat))) (cell (br r j, (k + j) % 7))
theorem cells0 : cellsOk 0 = true := by decide +kernel
theorem cells1 : cellsOk 1 = true := by decide +kernel
theorem cells2 : cellsOk 2 = true := by decide +kernel
theorem cells3 : cellsOk 3 = true := by decide +kernel
theorem cells4 : cellsOk 4 = true := by decide +kernel
theorem cells5 : cellsOk 5 = true := by decide +kernel
theorem cells6 : cellsOk 6 = true := by decide +kernel
theorem cell_ok {r k j : Nat} (hr : r < 5) (hk : k < 7) (hj : j < 6) : cellO (row r) (dress k) (.int (j : Nat)) = some (cell (br r j, (k + j) % 7)) := by
  have h : cellsOk k = true := by
    match k, hk with
    | 0, _ => exact cells0
    | 1, _ => exact cells1
    | 2, _ => exact cells2
    | 3, _ => exact cells3
    | 4, _ => exact cells4
    | 5, _ => exact cells5
    | 6, _ => exact cells6
  exact isD_eq (List.all_eq_true.mp (List.all_eq_true.mp h r (List.mem_range.mpr hr)) j (List.mem_range.mpr hj))
/-- the text of the places ps -/
theorem text_at {r k : Nat} (hr : r < 5) (hk : k < 7) {P t : D} {ps : List Nat} (hP : iterD P = some (ps.map fun j => .int (j : Nat))) (hps : ∀ j ∈ ps, j < 6) (hl : ps.length ≤ 10000) (ht : txt (ps.map fun j => (br r j, (k + j) % 7)) = some t) :
    Φ3 fText [row r, dress k, P] = some t := by
  show (if fText = fText then defD [fCheck, fStrip] Φ2 [] 20 ns3 psText (rc 3).body [row r, dress k, P] else _) = _
  rw [if_pos rfl]
  refine text_def Φ2 hP (by simpa using hl) (fun d => match d with | .int i => cell (br r i.toNat, (k + i.toNat) % 7) | d => d) (fun it hit => ?_) ?_
  · obtain ⟨j, hj, rfl⟩ := List.mem_map.mp hit
    exact cell_ok hr hk (hps j hj)
  · unfold txt at ht
    rw [List.map_map] at ht ⊢
    exact ht

/-! The answers for each word of brackets in each dress -/
noncomputable def words : List (List Nat × Bool) := [([40, 41], true), ([40, 40], false), ([41, 41], false), ([40, 40, 41, 41], true), ([40, 40, 41, 40], false), ([41, 40, 41, 41], false), ([40, 40, 40, 41], false), ([40, 41, 41, 41], false),
  ([40, 41, 40, 41, 40, 41], true), ([40, 41, 40, 40, 41, 41], true), ([40, 40, 41, 41, 40, 41], true), ([40, 40, 41, 40, 41, 41], true), ([40, 40, 40, 41, 41, 41], true)]
noncomputable def chk (t : Option D) : Option D := app1 (Φ3 fCheck) t
noncomputable def wOk (s : Nat) : Bool := words.all fun w => isD (chk (txt (wl w.1 s))) (.bool w.2)
theorem w0Ok : wOk 0 = true := by decide +kernel
theorem w1Ok : wOk 1 = true := by decide +kernel
theorem w2Ok : wOk 2 = true := by decide +kernel
theorem w3Ok : wOk 3 = true := by decide +kernel
theorem w4Ok : wOk 4 = true := by decide +kernel
theorem w5Ok : wOk 5 = true := by decide +kernel
theorem w6Ok : wOk 6 = true := by decide +kernel
theorem word_ok {w : List Nat} {v : Bool} {s : Nat} (hs : s < 7) (h : (w, v) ∈ words) : chk (txt (wl w s)) = some (.bool v) := by
  have e : wOk s = true := by
    match s, hs with
    | 0, _ => exact w0Ok
    | 1, _ => exact w1Ok
    | 2, _ => exact w2Ok
    | 3, _ => exact w3Ok
    | 4, _ => exact w4Ok
    | 5, _ => exact w5Ok
    | 6, _ => exact w6Ok
  exact isD_eq (List.all_eq_true.mp e (w, v) h)
/-- the brackets of a row's places from lo to hi -/
noncomputable def part (r lo hi : Nat) : List Nat := (List.range (hi + 1 - lo)).map fun p => br r (lo + p)
noncomputable def ckT (r lo hi : Nat) : Option Bool := (words.find? fun w => w.1 == part r lo hi).map (·.2)
theorem ckT_spec {r lo hi : Nat} {v : Bool} (h : ckT r lo hi = some v) : (part r lo hi, v) ∈ words := by
  unfold ckT at h
  cases e : words.find? fun w => w.1 == part r lo hi with
  | none => rw [e] at h; cases h
  | some w =>
    rw [e] at h
    cases h
    have h1 := List.mem_of_find?_eq_some e
    have h2 : w.1 = part r lo hi := by simpa using List.find?_some e
    rw [← h2]
    exact h1
noncomputable def rngD (lo hi : Nat) : D := .rng (lo : Nat) ((hi : Nat) + 1) 1
noncomputable def rngN (lo hi : Nat) : List Nat := (List.range (hi + 1 - lo)).map fun p => lo + p
theorem rng_all : ((List.range 6).all fun lo => (List.range 6).all fun hi => isD ((iterD (rngD lo hi)).map .lst) (.lst ((rngN lo hi).map fun j => .int (j : Nat)))) = true := by decide +kernel
theorem rng_it {lo hi : Nat} (h1 : lo < 6) (h2 : hi < 6) : iterD (rngD lo hi) = some ((rngN lo hi).map fun j => .int (j : Nat)) := by
  have h := isD_eq (List.all_eq_true.mp (List.all_eq_true.mp rng_all lo (List.mem_range.mpr h1)) hi (List.mem_range.mpr h2))
  cases e : iterD (rngD lo hi) with
  | none => rw [e] at h; cases h
  | some ds => rw [e] at h; cases h; rfl
theorem part_wl (r k lo hi : Nat) : (rngN lo hi).map (fun j => (br r j, (k + j) % 7)) = wl (part r lo hi) ((k + lo) % 7) := by
  unfold rngN wl part
  rw [List.length_map, List.length_range, List.map_map]
  refine List.map_congr_left fun p hp => ?_
  have hp' := List.mem_range.mp hp
  have e1 : ((List.range (hi + 1 - lo)).map fun p => br r (lo + p))[p]? = some (br r (lo + p)) := by
    rw [List.getElem?_map, List.getElem?_range hp']; rfl
  have e2 : (k + (lo + p)) % 7 = ((k + lo) % 7 + p) % 7 := by rw [Nat.mod_add_mod, Nat.add_assoc]
  simp only [Function.comp]
  rw [e1, e2]
  rfl
theorem chk_some {t : Option D} {d : D} (h : chk t = some d) : ∃ x, t = some x := by
  cases t with
  | none => cases h
  | some x => exact ⟨x, rfl⟩
/-- what is said of a stretch of a row -/
theorem ct {r k lo hi : Nat} {v : Bool} (hr : r < 5) (hk : k < 7) (h1 : lo < 6) (h2 : hi < 6) (h : ckT r lo hi = some v) : chk (Φ3 fText [row r, dress k, rngD lo hi]) = some (.bool v) := by
  have hw := word_ok (s := (k + lo) % 7) (Nat.mod_lt _ (by omega)) (ckT_spec h)
  obtain ⟨x, hx⟩ := chk_some hw
  have hj : ∀ j ∈ rngN lo hi, j < 6 := fun j hj => by
    obtain ⟨p, hp, rfl⟩ := List.mem_map.mp hj
    have := List.mem_range.mp hp
    omega
  have hl : (rngN lo hi).length ≤ 10000 := by
    unfold rngN
    rw [List.length_map, List.length_range]
    omega
  rw [text_at hr hk (rng_it h1 h2) hj hl (by rw [part_wl]; exact hx)]
  rw [hx] at hw; exact hw

/-! The row with its first bracket at its end -/
noncomputable def turnN : List Nat := [1, 2, 3, 4, 5, 0]
noncomputable def turnD : D := .lst (turnN.map fun j => .int (j : Nat))
noncomputable def rOk (k : Nat) : Bool := (List.range 5).all fun r => isD (chk (txt (turnN.map fun j => (br r j, (k + j) % 7)))) (.bool false)
theorem r0Ok : rOk 0 = true := by decide +kernel
theorem r1Ok : rOk 1 = true := by decide +kernel
theorem r2Ok : rOk 2 = true := by decide +kernel
theorem r3Ok : rOk 3 = true := by decide +kernel
theorem r4Ok : rOk 4 = true := by decide +kernel
theorem r5Ok : rOk 5 = true := by decide +kernel
theorem r6Ok : rOk 6 = true := by decide +kernel
theorem ct_turn {r k : Nat} (hr : r < 5) (hk : k < 7) : chk (Φ3 fText [row r, dress k, turnD]) = some (.bool false) := by
  have e : rOk k = true := by
    match k, hk with
    | 0, _ => exact r0Ok
    | 1, _ => exact r1Ok
    | 2, _ => exact r2Ok
    | 3, _ => exact r3Ok
    | 4, _ => exact r4Ok
    | 5, _ => exact r5Ok
    | 6, _ => exact r6Ok
  have hw := isD_eq (List.all_eq_true.mp e r (List.mem_range.mpr hr))
  obtain ⟨x, hx⟩ := chk_some hw
  rw [text_at hr hk (show iterD turnD = some (turnN.map fun j => .int (j : Nat)) from rfl) (by decide) (by decide) hx]
  rw [hx] at hw; exact hw
end Mine
namespace Mine

/-- a frame by a list -/
noncomputable def envL (l : List (Str × V)) : Str → Option V := fun z => l.lookup z
theorem envL_le {l : List (Str × V)} {ρ : Str → Option V} (h : ∀ p ∈ l, ρ p.1 = some p.2) : ∀ z v, envL l z = some v → ρ z = some v := fun z v e => h (z, v) (mem_of_lookup e)
noncomputable def got (names : List Str) (o : Option (FlowD × (Str → Option V))) : Option (List (Option V)) := match o with | some (.next, ρ) => some (names.map ρ) | _ => Option.none
theorem got_spec {names : List Str} {o : Option (FlowD × (Str → Option V))} {l : List (Option V)} (h : got names o = some l) : ∃ ρ, o = some (.next, ρ) ∧ names.map ρ = l := by
  unfold got at h
  split at h
  · cases h; exact ⟨_, rfl, rfl⟩
  · cases h
theorem envL_got {l : List (Str × V)} {ρ : Str → Option V} (h : (l.map (·.1)).map ρ = l.map fun p => some p.2) : ∀ z v, envL l z = some v → ρ z = some v := envL_le fun p hp => by
  rw [List.map_map] at h
  exact (List.map_inj_left.mp h) p hp
noncomputable def gotR (o : Option (FlowD × (Str → Option V))) : Option D := match o with | some (.ret d, _) => some d | _ => Option.none
theorem gotR_spec {o : Option (FlowD × (Str → Option V))} {d : D} (h : gotR o = some d) : ∃ ρ, o = some (.ret d, ρ) := by
  unfold gotR at h
  split at h
  · cases h; exact ⟨_, rfl⟩
  · cases h

section
variable {prog : Program} {w : World} {h₁ : Heap} {k : Nat} {fns : List Str} {Φ : Fn} {A : Around} {s₀ : Shared} {own₀ : List Addr} {E : Env} {ρ : Str → Option V}
theorem XS.step1 (X : Cx prog w h₁ k fns Φ) (rm : Rm A k) {muts : List Str} {n : Nat} {ns : List (Str × NameKind)} (hE : E.scope.names = ns) {st : Stmt} {rest : List Stmt} {l l' : List (Str × V)} {r : FlowD} {ρ' : Str → Option V}
    (h : got (l'.map (·.1)) (ex1 fns Φ muts ns n (envL l) st) = some (l'.map fun p => some p.2)) (b : XS prog w h₁ s₀ own₀ E A (envL l') r ρ' (execs rest E)) : XS prog w h₁ s₀ own₀ E A (envL l) r ρ' (execs (st :: rest) E) := by
  obtain ⟨ρ₁, e, hm⟩ := got_spec h
  rw [← hE] at e
  exact XS.seq (ex1_sound X rm e) (XS.weak (envL_got hm) b)
theorem XS.nil : XS prog w h₁ s₀ own₀ E A ρ .next ρ (execs [] E) := fun mine m cm _ _ _ I hq => wpAny_execs_nil (hq _ _ ⟨mine, m, cm, I, kpS_of (fun _ _ e => e) _, .of fun _ _ e => e, fun _ ha => .inl ha, rfl⟩)
theorem XS.ifT (X : Cx prog w h₁ k fns Φ) (rm : Rm A k) {n : Nat} {t : Expr} {b : Bool} {body orelse : List Stmt} {pos : Pos} {r : FlowD} {ρ' : Str → Option V} (ht : tst (ev fns Φ n E.scope.names (shρ ρ)) t = some b)
    (h : XS prog w h₁ s₀ own₀ E A ρ r ρ' (execs (if b = true then body else orelse) E)) : XS prog w h₁ s₀ own₀ E A ρ r ρ' (exec (.If t body orelse pos) E) := by
  intro mine m cm s Q Err I hq
  refine wpAny_If (tst_sound rm.zero (fun e d hd => ev_sound X n rm e d hd) ht s _ _ I.ev fun s₁ k1 => ?_)
  have := h mine m cm s₁ _ Err (I.kp k1) fun fl s' en => hq _ _ (Ends.of_kp k1 en)
  cases b with
  | true => exact this
  | false => exact this
end

theorem tst1_cmp {f : Expr → Option D} {l r : Expr} {op : CmpOp} {p : Pos} {a b : D} {t : Bool} (hl : f l = some a) (hr : f r = some b) (hc : cmpD op a b = some (.bool t)) (hb : behindInMarks op r = false) : tst1 f (.Compare l [op] [r] p) = some t := by
  unfold tst1
  simp only [hb, Bool.false_eq_true, if_false, hl, hr, hc]
theorem tst_cmp {f : Expr → Option D} {l r : Expr} {op : CmpOp} {p : Pos} {a b : D} {t : Bool} (hl : f l = some a) (hr : f r = some b) (hc : cmpD op a b = some (.bool t)) (hb : behindInMarks op r = false) : tst f (.Compare l [op] [r] p) = some t := by
  show tst1 f (.Compare l [op] [r] p) = some t
  exact tst1_cmp hl hr hc hb
theorem ifs_and {f : Expr → Option D} {c1 c2 : Expr} {p : Pos} {b1 b2 : Bool} (h1 : tst1 f c1 = some b1) (h2 : tst1 f c2 = some b2) : ifsT f [.BoolOp .And [c1, c2] p] = some (b1 && b2) := by
  unfold ifsT tst andT
  cases b1 <;> cases b2 <;> simp [h1, h2, andT, ifsT]

noncomputable abbrev nI : Str := Str.ofString "i"
noncomputable abbrev nJ : Str := Str.ofString "j"
noncomputable abbrev nOth : Str := Str.ofString "others"

/-! The mate -/
noncomputable def fns3 : List Str := [fText, fCheck, fStrip]
noncomputable def b4 : List Stmt := (rc 4).body
noncomputable abbrev ns4 : List (Str × NameKind) := (rc 4).scope.names
noncomputable def u4 : Stmt := bAt (fB (bAt b4 1)) 0
noncomputable def t4 : Expr := iT u4
noncomputable def v4 : Stmt := bAt (iB u4) 0
theorem b4_eq : (rc 4).body = [bAt b4 0, .For (fT (bAt b4 1)) (fI (bAt b4 1)) [.If (.Compare (cL t4) [.Is] [cR t4] (cP t4)) [.Return (some (rE v4)) (rP v4)] [] (iP u4)] [] (fP (bAt b4 1)), bAt b4 2] := by kernel_rfl
noncomputable def oth (r i : Nat) : D := if br r i = 40 then .rng ((i : Nat) + 1) 6 2 else .rng ((i : Nat) - 1) (-1) (-2)
noncomputable def e40 (r : Nat) (Δ : D) (i : Nat) : List (Str × V) := [(nRow, .sh (row r)), (nDress, .sh Δ), (nI, .sh (.int (i : Nat)))]
noncomputable def e41 (r : Nat) (Δ : D) (i : Nat) : List (Str × V) := [(nRow, .sh (row r)), (nDress, .sh Δ), (nI, .sh (.int (i : Nat))), (nOth, .sh (oth r i))]
noncomputable def e42 (R Δ : D) (i j : Int) : List (Str × V) := [(nRow, .sh R), (nDress, .sh Δ), (nI, .sh (.int i)), (nJ, .sh (.int j))]
theorem m_bind (r : Nat) (Δ : D) (i : Nat) : ((e40 r Δ i).map (·.1)).map (bindρ psMate [row r, Δ, .int (i : Nat)] fun _ => Option.none) = (e40 r Δ i).map fun p => some p.2 := by kernel_rfl
noncomputable abbrev S0L (Φ : Fn) (r i : Nat) : D → Option (List (Option V)) := fun Δ => got ((e41 r Δ i).map (·.1)) (ex1 fns3 Φ [] ns4 20 (envL (e40 r Δ i)) (bAt b4 0))
noncomputable abbrev S0R (r i : Nat) : D → Option (List (Option V)) := fun Δ => some ((e41 r Δ i).map fun p => some p.2)
theorem m_s00 (Φ : Fn) : [S0L Φ 0 0, S0L Φ 0 1, S0L Φ 0 2, S0L Φ 0 3, S0L Φ 0 4, S0L Φ 0 5] = [S0R 0 0, S0R 0 1, S0R 0 2, S0R 0 3, S0R 0 4, S0R 0 5] := by kernel_rfl
theorem m_s01 (Φ : Fn) : [S0L Φ 1 0, S0L Φ 1 1, S0L Φ 1 2, S0L Φ 1 3, S0L Φ 1 4, S0L Φ 1 5] = [S0R 1 0, S0R 1 1, S0R 1 2, S0R 1 3, S0R 1 4, S0R 1 5] := by kernel_rfl
theorem m_s02 (Φ : Fn) : [S0L Φ 2 0, S0L Φ 2 1, S0L Φ 2 2, S0L Φ 2 3, S0L Φ 2 4, S0L Φ 2 5] = [S0R 2 0, S0R 2 1, S0R 2 2, S0R 2 3, S0R 2 4, S0R 2 5] := by kernel_rfl
theorem m_s03 (Φ : Fn) : [S0L Φ 3 0, S0L Φ 3 1, S0L Φ 3 2, S0L Φ 3 3, S0L Φ 3 4, S0L Φ 3 5] = [S0R 3 0, S0R 3 1, S0R 3 2, S0R 3 3, S0R 3 4, S0R 3 5] := by kernel_rfl
theorem m_s04 (Φ : Fn) : [S0L Φ 4 0, S0L Φ 4 1, S0L Φ 4 2, S0L Φ 4 3, S0L Φ 4 4, S0L Φ 4 5] = [S0R 4 0, S0R 4 1, S0R 4 2, S0R 4 3, S0R 4 4, S0R 4 5] := by kernel_rfl
theorem six_of {α : Type} {f g : Nat → α} (h : [f 0, f 1, f 2, f 3, f 4, f 5] = [g 0, g 1, g 2, g 3, g 4, g 5]) {i : Nat} (hi : i < 6) : f i = g i := by
  simp only [List.cons.injEq, and_true] at h
  obtain ⟨h0, h1, h2, h3, h4, h5⟩ := h
  match i, hi with
  | 0, _ => exact h0
  | 1, _ => exact h1
  | 2, _ => exact h2
  | 3, _ => exact h3
  | 4, _ => exact h4
  | 5, _ => exact h5
theorem m_s0 (Φ : Fn) {r i : Nat} (hr : r < 5) (hi : i < 6) (Δ : D) : got ((e41 r Δ i).map (·.1)) (ex1 fns3 Φ [] ns4 20 (envL (e40 r Δ i)) (bAt b4 0)) = some ((e41 r Δ i).map fun p => some p.2) := by
  have h : S0L Φ r i = S0R r i := by
    match r, hr with
    | 0, _ => exact six_of (f := S0L Φ 0) (g := S0R 0) (m_s00 Φ) hi
    | 1, _ => exact six_of (f := S0L Φ 1) (g := S0R 1) (m_s01 Φ) hi
    | 2, _ => exact six_of (f := S0L Φ 2) (g := S0R 2) (m_s02 Φ) hi
    | 3, _ => exact six_of (f := S0L Φ 3) (g := S0R 3) (m_s03 Φ) hi
    | 4, _ => exact six_of (f := S0L Φ 4) (g := S0R 4) (m_s04 Φ) hi
  exact congrFun h Δ
theorem m_it (Φ : Fn) (r : Nat) (Δ : D) (i : Nat) : ev fns3 Φ 20 ns4 (shρ (envL (e41 r Δ i))) (fI (bAt b4 1)) = some (oth r i) := by kernel_rfl
noncomputable def lohi (i j : Int) : D := .rng (if j < i then j else i) ((if j > i then j else i) + 1) 1
theorem m_cl (Φ : Fn) (R Δ : D) (i j : Int) : ev fns3 Φ 20 ns4 (shρ (envL (e42 R Δ i j))) (cL t4) = app1 (Φ fCheck) (Φ fText [R, Δ, lohi i j]) := by kernel_rfl
theorem m_cr (Φ : Fn) (R Δ : D) (i j : Int) : ev fns3 Φ 20 ns4 (shρ (envL (e42 R Δ i j))) (cR t4) = some (.bool true) := by kernel_rfl
theorem m_bm : behindInMarks .Is (cR t4) = false := by kernel_rfl
theorem m_ret (Φ : Fn) (R Δ : D) (i j : Int) : ev fns3 Φ 20 ns4 (shρ (freeze (envL (e42 R Δ i j)))) (rE v4) = some (.int j) := by kernel_rfl
theorem m_asg (d : D) (ρ : Str → Option V) : asgT ns4 (fT (bAt b4 1)) d ρ = asgName ns4 nJ d ρ := by kernel_rfl
theorem m_loc : (ns4.lookup nJ == some .local || ns4.lookup nJ == some .cell) = true := by kernel_rfl
theorem m_set {ρ : Str → Option V} (h : ∀ ds, ρ nJ ≠ some (.ow ds)) (d : D) : asgT ns4 (fT (bAt b4 1)) d ρ = some (upd ρ nJ (.sh d)) := by
  rw [m_asg]
  unfold asgName okVar
  rw [m_loc, Bool.true_and]
  cases e : ρ nJ with
  | none => rfl
  | some v =>
    cases v with
    | sh d => rfl
    | ow ds => exact absurd e (h ds)
end Mine
namespace Mine

noncomputable def loN (i j : Nat) : Nat := if j < i then j else i
noncomputable def hiN (i j : Nat) : Nat := if j > i then j else i
theorem lohi_rng (i j : Nat) : lohi (i : Nat) (j : Nat) = rngD (loN i j) (hiN i j) := by
  unfold lohi rngD loN hiN
  by_cases a : j < i
  · have b : ¬ j > i := by omega
    rw [if_pos a, if_neg b, if_pos (by omega), if_neg (by omega)]
  · by_cases b : j > i
    · rw [if_neg a, if_pos b, if_neg (by omega), if_pos (by omega)]
    · rw [if_neg a, if_neg b, if_neg (by omega), if_neg (by omega)]
noncomputable def ckP (r i j : Nat) : Option Bool := if i < 6 ∧ j < 6 then ckT r (loN i j) (hiN i j) else Option.none
/-- one turn of the loop that seeks the mate -/
noncomputable def mBody (r k i : Nat) (ρ : Str → Option V) : Option (FlowD × (Str → Option V)) :=
  @ite _ (ρ nRow = some (.sh (row r)) ∧ ρ nDress = some (.sh (dress k)) ∧ ρ nI = some (.sh (.int (i : Nat)))) (Classical.propDecidable _)
    (match ρ nJ with
    | some (.sh (.int j)) => if 0 ≤ j then
        (match ckP r i j.toNat with
        | some true => some (.ret (.int j), freeze (envL (e42 (row r) (dress k) (i : Nat) j)))
        | some false => some (.next, envL (e42 (row r) (dress k) (i : Nat) j))
        | Option.none => Option.none) else Option.none
    | _ => Option.none) Option.none
noncomputable def pickJ (r i : Nat) : List Nat → Option Nat
  | [] => Option.none
  | j :: js => match ckP r i j with | some true => some j | some false => pickJ r i js | Option.none => Option.none
noncomputable def jsN (r i : Nat) : List Nat := if br r i = 40 then (List.range 6).filter fun j => decide (i < j) && (j - i) % 2 == 1 else (List.range i).reverse.filter fun j => (i - j) % 2 == 1
theorem js_all : ((List.range 5).all fun r => (List.range 6).all fun i => isD ((iterD (oth r i)).map .lst) (.lst ((jsN r i).map fun j => .int (j : Nat))) && ((pickJ r i (jsN r i)).map fun m => ((m : Nat) : Int)) == some (mateT r i)) = true := by decide +kernel
theorem js_ok {r i : Nat} (hr : r < 5) (hi : i < 6) : iterD (oth r i) = some ((jsN r i).map fun j => .int (j : Nat)) ∧ ∃ m : Nat, pickJ r i (jsN r i) = some m ∧ (m : Int) = mateT r i := by
  have h := List.all_eq_true.mp (List.all_eq_true.mp js_all r (List.mem_range.mpr hr)) i (List.mem_range.mpr hi)
  rw [Bool.and_eq_true, beq_iff_eq] at h
  obtain ⟨h1, h2⟩ := h
  have h1 := isD_eq h1
  constructor
  · cases e : iterD (oth r i) with
    | none => rw [e] at h1; cases h1
    | some ds => rw [e] at h1; cases h1; rfl
  · cases e : pickJ r i (jsN r i) with
    | none => rw [e] at h2; cases h2
    | some m =>
      rw [e] at h2
      exact ⟨m, rfl, by injection h2⟩

theorem upd_ne {ρ : Str → Option V} {x y : Str} {v : V} (h : ¬ y = x) : upd ρ x v y = ρ y := if_neg h
theorem upd_eq {ρ : Str → Option V} {x : Str} {v : V} : upd ρ x v x = some v := if_pos rfl
theorem m_forS (r k i : Nat) {m : Nat} : ∀ (js : List Nat) (ρ : Str → Option V), ρ nRow = some (.sh (row r)) → ρ nDress = some (.sh (dress k)) → ρ nI = some (.sh (.int (i : Nat))) → (∀ ds, ρ nJ ≠ some (.ow ds)) → pickJ r i js = some m →
    ∃ ρ', forS (asgT ns4 (fT (bAt b4 1))) (mBody r k i) (js.map fun j => .int (j : Nat)) ρ = some (.ret (.int (m : Nat)), ρ')
  | [], _, _, _, _, _, h => by cases h
  | j :: js, ρ, h1, h2, h3, h4, h => by
    have g1 : upd ρ nJ (.sh (.int (j : Nat))) nRow = some (.sh (row r)) := (upd_ne (by decide)).trans h1
    have g2 : upd ρ nJ (.sh (.int (j : Nat))) nDress = some (.sh (dress k)) := (upd_ne (by decide)).trans h2
    have g3 : upd ρ nJ (.sh (.int (j : Nat))) nI = some (.sh (.int (i : Nat))) := (upd_ne (by decide)).trans h3
    have g4 : upd ρ nJ (.sh (.int (j : Nat))) nJ = some (.sh (.int (j : Nat))) := upd_eq
    have hb : mBody r k i (upd ρ nJ (.sh (.int (j : Nat)))) = (match ckP r i j with
        | some true => some (.ret (.int (j : Nat)), freeze (envL (e42 (row r) (dress k) (i : Nat) (j : Nat))))
        | some false => some (.next, envL (e42 (row r) (dress k) (i : Nat) (j : Nat)))
        | Option.none => Option.none) := by
      unfold mBody
      rw [if_pos ⟨g1, g2, g3⟩, g4]
      simp only
      rw [if_pos (by omega), Int.toNat_natCast]
    rw [List.map_cons, forS, m_set h4]
    dsimp only
    rw [hb]
    unfold pickJ at h
    split at h
    · rename_i hc
      cases h
      exact ⟨_, rfl⟩
    · rename_i hc
      exact m_forS r k i js _ (by kernel_rfl) (by kernel_rfl) (by kernel_rfl) (fun ds e => by
        have e2 : envL (e42 (row r) (dress k) (i : Nat) (j : Nat)) nJ = some (.sh (.int (j : Nat))) := by kernel_rfl
        rw [e2] at e; cases e) h
    · cases h

section
variable {prog : Program} {w : World} {h₁ : Heap} {K : Nat} {A : Around} {s₀ : Shared} {own₀ : List Addr} {E : Env}
theorem m_body (X : Cx prog w h₁ K fns3 Φ3) (rm : Rm A K) (hE : E.scope.names = ns4) {r k i : Nat} (hr : r < 5) (hk : k < 7) (ρ : Str → Option V) (fl : FlowD) (ρ' : Str → Option V) (h : mBody r k i ρ = some (fl, ρ')) :
    XS prog w h₁ s₀ own₀ E A ρ fl ρ' (execs [.If (.Compare (cL t4) [.Is] [cR t4] (cP t4)) [.Return (some (rE v4)) (rP v4)] [] (iP u4)] E) := by
  unfold mBody at h
  split at h
  · rename_i hI
    obtain ⟨i1, i2, i3⟩ := hI
    split at h
    · rename_i j hj
      split at h
      · rename_i h0
        obtain ⟨j, rfl⟩ := Int.eq_ofNat_of_zero_le h0
        have hle : ∀ z v, envL (e42 (row r) (dress k) (i : Nat) (j : Nat)) z = some v → ρ z = some v := envL_le fun p hp => by
          simp only [e42, List.mem_cons, List.not_mem_nil, or_false] at hp
          rcases hp with rfl | rfl | rfl | rfl
          · exact i1
          · exact i2
          · exact i3
          · exact hj
        have ht : ∀ v, ckP r i j = some v → tst (ev fns3 Φ3 20 E.scope.names (shρ (envL (e42 (row r) (dress k) (i : Nat) (j : Nat))))) (.Compare (cL t4) [.Is] [cR t4] (cP t4)) = some v := fun v hv => by
          unfold ckP at hv
          split at hv
          · rename_i hij
            rw [hE]
            refine tst_cmp (a := .bool v) (b := .bool true) ((m_cl Φ3 _ _ _ _).trans ?_) (m_cr Φ3 _ _ _ _) ?_ m_bm
            · rw [lohi_rng]
              exact ct hr hk (by unfold loN; split <;> omega) (by unfold hiN; split <;> omega) hv
            · cases v <;> rfl
          · cases hv
        rw [Int.toNat_natCast] at h
        split at h
        · rename_i hv
          cases h
          refine XS.weak hle (XS.stop (XS.ifT X rm (ht _ hv) ?_))
          rw [if_pos rfl]
          exact XS.stop (return_sound X (n := 20) rm (by rw [hE]; exact m_ret Φ3 _ _ _ _))
        · rename_i hv
          cases h
          refine XS.weak hle (XS.seq (XS.ifT X rm (ht _ hv) ?_) XS.nil)
          rw [if_neg (by simp)]
          exact XS.nil
        · cases h
      · cases h
    · cases h
  · cases h
end

theorem mate_xs {prog : Program} {w : World} {h₁ : Heap} {K : Nat} (X : Cx prog w h₁ K fns3 Φ3) {r k i : Nat} (hr : r < 5) (hk : k < 7) (hi : i < 6) :
    ∃ ρ', ∀ (own : List Addr) (A : Around) (s₀ : Shared) (E : Env), Rm A K → E.scope = (rc 4).scope →
      XS prog w h₁ s₀ own E A (bindρ psMate [row r, dress k, .int (i : Nat)] fun _ => Option.none) (.ret (.int (mateT r i))) ρ' (execs (rc 4).body E) := by
  obtain ⟨hit, m, hp, hm⟩ := js_ok hr hi
  obtain ⟨ρ', hf⟩ := m_forS r k i (jsN r i) (envL (e41 r (dress k) i)) (by kernel_rfl) (by kernel_rfl) (by kernel_rfl) (fun ds e => by
    have e2 : envL (e41 r (dress k) i) nJ = Option.none := by kernel_rfl
    rw [e2] at e; cases e) hp
  refine ⟨ρ', fun own A s₀ E rm hE => ?_⟩
  have hE' : E.scope.names = ns4 := by rw [hE]
  rw [b4_eq, ← hm]
  refine XS.weak (envL_got (m_bind r (dress k) i)) (XS.step1 X rm hE' (m_s0 Φ3 hr hi (dress k)) (XS.stop ?_))
  exact for_sound X (n := 20) rm (by rw [hE']; exact m_it Φ3 r (dress k) i) hit (m_body X rm hE' hr hk) (by rw [hE']; exact hf)
end Mine
namespace Mine

noncomputable def rowIdx (x : D) : Option Nat := (List.range 5).find? fun r => D.beq (row r) x
noncomputable def dressIdx (x : D) : Option Nat := (List.range 7).find? fun k => D.beq (dress k) x
theorem rowIdx_spec {x : D} {r : Nat} (h : rowIdx x = some r) : r < 5 ∧ row r = x :=
  ⟨List.mem_range.mp (List.mem_of_find?_eq_some h), D.beq_eq (List.find?_some (p := fun r => D.beq (row r) x) h)⟩
theorem dressIdx_spec {x : D} {r : Nat} (h : dressIdx x = some r) : r < 7 ∧ dress r = x :=
  ⟨List.mem_range.mp (List.mem_of_find?_eq_some h), D.beq_eq (List.find?_some (p := fun r => D.beq (dress r) x) h)⟩
theorem rows_idx : ((List.range 5).all fun r => rowIdx (row r) == some r) = true := by decide +kernel
theorem dress_idx : ((List.range 7).all fun k => dressIdx (dress k) == some k) = true := by decide +kernel
theorem rowIdx_row {r : Nat} (h : r < 5) : rowIdx (row r) = some r := by simpa using List.all_eq_true.mp rows_idx r (List.mem_range.mpr h)
theorem dressIdx_dress {k : Nat} (h : k < 7) : dressIdx (dress k) = some k := by simpa using List.all_eq_true.mp dress_idx k (List.mem_range.mpr h)

/-- a table over rows, dresses and a number below m -/
noncomputable def tab3 (m : Nat) (t : Nat → Nat → D) : List D → Option D
  | [x, δ, .int i] => (match rowIdx x, dressIdx δ with | some r, some _ => if 0 ≤ i ∧ i < m then some (t r i.toNat) else Option.none | _, _ => Option.none)
  | _ => Option.none
theorem tab3_spec {m : Nat} {t : Nat → Nat → D} {ds : List D} {d : D} (h : tab3 m t ds = some d) : ∃ r k i, r < 5 ∧ k < 7 ∧ i < m ∧ ds = [row r, dress k, .int (i : Nat)] ∧ d = t r i := by
  unfold tab3 at h
  split at h
  · split at h
    · rename_i r k hr hk
      split at h
      · rename_i hi
        cases h
        obtain ⟨h1, rfl⟩ := rowIdx_spec hr
        obtain ⟨h2, rfl⟩ := dressIdx_spec hk
        refine ⟨r, k, _, h1, h2, ?_, ?_, rfl⟩
        · omega
        · rw [Int.toNat_of_nonneg hi.1]
      · cases h
    · cases h
  · cases h
theorem tab3_at {m : Nat} {t : Nat → Nat → D} {r k i : Nat} (hr : r < 5) (hk : k < 7) (hi : i < m) : tab3 m t [row r, dress k, .int (i : Nat)] = some (t r i) := by
  unfold tab3
  simp only [rowIdx_row hr, dressIdx_dress hk]
  rw [if_pos (by omega), Int.toNat_natCast]

noncomputable def Φ4' : Fn := fun g ds => if g = fMate then tab3 6 (fun r i => .int (mateT r i)) ds else Φ3 g ds
noncomputable def fns4 : List Str := fMate :: fns3
section
variable {mg mb : Str → Option Value} {h₁ : Heap} {prog : Program} {w : World}
theorem Facts.x4' (F : Facts mg mb h₁) : Cx prog w h₁ 6 fns4 Φ4' := F.push F.x3 4 (by decide +kernel) (by decide +kernel) bnd4 (Nat.lt_succ_self _) fun ds d h => by
  obtain ⟨r, k, i, hr, hk, hi, rfl, rfl⟩ := tab3_spec h
  exact ⟨rfl, mate_xs F.x3 hr hk hi⟩
end

/-! The hook -/
noncomputable def rowsN (r : Nat) : Nat := r
noncomputable def hookL : List (List (Nat × Int)) := [[(0, 1), (2, 0), (0, 1), (1, 0), (0, 1)], [(1, 1), (3, 0), (0, 0), (1, 1), (0, 0)], [(0, 0), (2, 1), (0, 0), (3, 0), (2, 1)], [(1, 0), (3, 1), (4, 0), (3, 1), (2, 0)], [(0, 0), (3, 0), (4, 1), (3, 0), (0, 0)]]
noncomputable def hookT (r i : Nat) : Nat × Int := ((hookL[r]?).getD [])[i]?.getD (9, 9)
noncomputable def hookD (r i : Nat) : D := .tup [row (hookT r i).1, .int (hookT r i).2]
noncomputable abbrev nP5 : Str := Str.ofString "p"
noncomputable abbrev nQ5 : Str := Str.ofString "q"
noncomputable def b5 : List Stmt := (rc 5).body
noncomputable abbrev ns5 : List (Str × NameKind) := (rc 5).scope.names
noncomputable def g50 : Stmt := bAt b5 0
noncomputable def g51 : Stmt := bAt b5 1
noncomputable def rest5 : List Stmt := b5.drop 2
theorem b5_eq : (rc 5).body = .Assign [.Name nP5 (aX g50)] (aV g50) (aP g50) :: .Assign [.Name nQ5 (aX g51)] (aV g51) (aP g51) :: rest5 := by kernel_rfl
noncomputable def e50 (R Δ : D) (i : Int) : List (Str × V) := [(nRow, .sh R), (nDress, .sh Δ), (nI, .sh (.int i))]
noncomputable def e51 (R Δ : D) (i p : Int) : List (Str × V) := [(nRow, .sh R), (nDress, .sh Δ), (nI, .sh (.int i)), (nP5, .sh (.int p))]
noncomputable def e52 (R Δ : D) (i p q : Int) : List (Str × V) := [(nRow, .sh R), (nDress, .sh Δ), (nI, .sh (.int i)), (nP5, .sh (.int p)), (nQ5, .sh (.int q))]
theorem h_bind (R Δ : D) (i : Int) : ((e50 R Δ i).map (·.1)).map (bindρ psMate [R, Δ, .int i] fun _ => Option.none) = (e50 R Δ i).map fun p => some p.2 := by kernel_rfl
theorem h_v0 (Φ : Fn) (R Δ : D) (i : Int) : ev fns4 Φ 20 ns5 (shρ (envL (e50 R Δ i))) (aV g50) = Φ fMate [R, Δ, .int i] := by kernel_rfl
theorem h_k0 (R Δ : D) (i : Int) : okVar ns5 (envL (e50 R Δ i)) nP5 = true := by kernel_rfl
theorem h_u0 (R Δ : D) (i p : Int) : ((e51 R Δ i p).map (·.1)).map (upd (envL (e50 R Δ i)) nP5 (.sh (.int p))) = (e51 R Δ i p).map fun p => some p.2 := by kernel_rfl
theorem h_v1 (Φ : Fn) (R Δ : D) (i p : Int) : ev fns4 Φ 20 ns5 (shρ (envL (e51 R Δ i p))) (aV g51) = Φ fMate [R, Δ, .int (i + 1)] := by kernel_rfl
theorem h_k1 (R Δ : D) (i p : Int) : okVar ns5 (envL (e51 R Δ i p)) nQ5 = true := by kernel_rfl
theorem h_u1 (R Δ : D) (i p q : Int) : ((e52 R Δ i p q).map (·.1)).map (upd (envL (e51 R Δ i p)) nQ5 (.sh (.int q))) = (e52 R Δ i p q).map fun p => some p.2 := by kernel_rfl
noncomputable abbrev H5L (Φ : Fn) (r i : Nat) : D → Option D := fun Δ => gotR (exS fns4 Φ [] ns5 20 (envL (e52 (row r) Δ (i : Nat) (mateT r i) (mateT r (i + 1)))) rest5)
noncomputable abbrev H5R (r i : Nat) : D → Option D := fun _ => some (hookD r i)
theorem h_r0 (Φ : Fn) : [H5L Φ 0 0, H5L Φ 0 1, H5L Φ 0 2, H5L Φ 0 3, H5L Φ 0 4] = [H5R 0 0, H5R 0 1, H5R 0 2, H5R 0 3, H5R 0 4] := by kernel_rfl
theorem h_r1 (Φ : Fn) : [H5L Φ 1 0, H5L Φ 1 1, H5L Φ 1 2, H5L Φ 1 3, H5L Φ 1 4] = [H5R 1 0, H5R 1 1, H5R 1 2, H5R 1 3, H5R 1 4] := by kernel_rfl
theorem h_r2 (Φ : Fn) : [H5L Φ 2 0, H5L Φ 2 1, H5L Φ 2 2, H5L Φ 2 3, H5L Φ 2 4] = [H5R 2 0, H5R 2 1, H5R 2 2, H5R 2 3, H5R 2 4] := by kernel_rfl
theorem h_r3 (Φ : Fn) : [H5L Φ 3 0, H5L Φ 3 1, H5L Φ 3 2, H5L Φ 3 3, H5L Φ 3 4] = [H5R 3 0, H5R 3 1, H5R 3 2, H5R 3 3, H5R 3 4] := by kernel_rfl
theorem h_r4 (Φ : Fn) : [H5L Φ 4 0, H5L Φ 4 1, H5L Φ 4 2, H5L Φ 4 3, H5L Φ 4 4] = [H5R 4 0, H5R 4 1, H5R 4 2, H5R 4 3, H5R 4 4] := by kernel_rfl
theorem five_of {α : Type} {f g : Nat → α} (h : [f 0, f 1, f 2, f 3, f 4] = [g 0, g 1, g 2, g 3, g 4]) {i : Nat} (hi : i < 5) : f i = g i := by
  simp only [List.cons.injEq, and_true] at h
  obtain ⟨h0, h1, h2, h3, h4⟩ := h
  match i, hi with
  | 0, _ => exact h0
  | 1, _ => exact h1
  | 2, _ => exact h2
  | 3, _ => exact h3
  | 4, _ => exact h4
theorem h_rest (Φ : Fn) {r i : Nat} (hr : r < 5) (hi : i < 5) (Δ : D) : gotR (exS fns4 Φ [] ns5 20 (envL (e52 (row r) Δ (i : Nat) (mateT r i) (mateT r (i + 1)))) rest5) = some (hookD r i) := by
  have h : H5L Φ r i = H5R r i := by
    match r, hr with
    | 0, _ => exact five_of (f := H5L Φ 0) (g := H5R 0) (h_r0 Φ) hi
    | 1, _ => exact five_of (f := H5L Φ 1) (g := H5R 1) (h_r1 Φ) hi
    | 2, _ => exact five_of (f := H5L Φ 2) (g := H5R 2) (h_r2 Φ) hi
    | 3, _ => exact five_of (f := H5L Φ 3) (g := H5R 3) (h_r3 Φ) hi
    | 4, _ => exact five_of (f := H5L Φ 4) (g := H5R 4) (h_r4 Φ) hi
  exact congrFun h Δ
theorem hook_xs {prog : Program} {w : World} {h₁ : Heap} {K : Nat} (X : Cx prog w h₁ K fns4 Φ4') {r k i : Nat} (hr : r < 5) (hk : k < 7) (hi : i < 5) :
    ∃ ρ', ∀ (own : List Addr) (A : Around) (s₀ : Shared) (E : Env), Rm A K → E.scope = (rc 5).scope →
      XS prog w h₁ s₀ own E A (bindρ psMate [row r, dress k, .int (i : Nat)] fun _ => Option.none) (.ret (hookD r i)) ρ' (execs (rc 5).body E) := by
  obtain ⟨ρ', he⟩ := gotR_spec (h_rest Φ4' hr hi (dress k))
  refine ⟨ρ', fun own A s₀ E rm hE => ?_⟩
  have hE' : E.scope.names = ns5 := by rw [hE]
  have m0 : Φ4' fMate [row r, dress k, .int (i : Nat)] = some (.int (mateT r i)) := (if_pos rfl).trans (tab3_at hr hk (by omega))
  have m1 : Φ4' fMate [row r, dress k, .int ((i : Nat) + 1)] = some (.int (mateT r (i + 1))) := (if_pos rfl).trans (tab3_at (i := i + 1) hr hk (by omega))
  rw [b5_eq]
  refine XS.weak (envL_got (h_bind _ _ _)) ?_
  refine XS.seq (assign_plain X (n := 20) rm (by rw [hE']; exact h_k0 _ _ _) (by rw [hE']; exact (h_v0 Φ4' _ _ _).trans m0)) (XS.weak (envL_got (h_u0 _ _ _ _)) ?_)
  refine XS.seq (assign_plain X (n := 20) rm (by rw [hE']; exact h_k1 _ _ _ _) (by rw [hE']; exact (h_v1 Φ4' _ _ _ _).trans m1)) (XS.weak (envL_got (h_u1 _ _ _ _ _)) ?_)
  rw [← hE'] at he
  exact exS_sound X rm 20 _ _ _ _ he
noncomputable def Φ5' : Fn := fun g ds => if g = fHook then tab3 5 hookD ds else Φ4' g ds
noncomputable def fns5 : List Str := fHook :: fns4
theorem Facts.x5' {mg mb : Str → Option Value} {h₁ : Heap} {prog : Program} {w : World} (F : Facts mg mb h₁) : Cx prog w h₁ 7 fns5 Φ5' := F.push F.x4' 5 (by decide +kernel) (by decide +kernel) bnd5 (Nat.lt_succ_self _) fun ds d h => by
  obtain ⟨r, k, i, hr, hk, hi, rfl, rfl⟩ := tab3_spec h
  exact ⟨rfl, hook_xs F.x4' hr hk hi⟩
end Mine
namespace Mine

section
variable {prog : Program} {w : World} {h₁ : Heap} {k : Nat} {fns : List Str} {Φ : Str → List D → Option D} {A : Around} {s₀ : Shared} {own₀ : List Addr} {E : Env} {ρ : Str → Option V}

/-- a loop, its frame known ahead of each turn -/
theorem for_inv (X : Cx prog w h₁ k fns Φ) {n : Nat} (rm : Rm A k) {t iter : Expr} {body : List Stmt} {pos : Pos} {d : D} {ds : List D} (St : Nat → Str → Option V)
    (hd : ev fns Φ n E.scope.names (shρ ρ) iter = some d) (hds : iterD d = some ds) (h0 : ∀ z v, St 0 z = some v → ρ z = some v)
    (turn : ∀ i (hi : i < ds.length), ∃ ρ₂ ρ₃, asgT E.scope.names t ds[i] (St i) = some ρ₂ ∧ XS prog w h₁ s₀ own₀ E A ρ₂ .next ρ₃ (execs body E) ∧ ∀ z v, St (i + 1) z = some v → ρ₃ z = some v) :
    XS prog w h₁ s₀ own₀ E A ρ .next (St ds.length) (exec (.For t iter body [] pos) E) := by
  intro mine m cm s Q Err I hq
  refine wpAny_For (ev_sound X n rm _ _ hd s _ _ I.ev fun v s₁ k1 r1 => iter_sound r1 hds fun s₂ k2 hnone hit => ?_) (folded_plain hd)
  generalize s₁.heap.objs.size = It at hnone hit ⊢
  have hIts : s.heap.get? It = none := get_none_mono k1.heap hnone
  have hI0 : s₀.heap.get? It = none := get_none_mono I.k0.heap hIts
  refine codeAny_forLoop_any (fun j s' => ∃ i mine' m' cm', j = ds.length - i ∧ i ≤ ds.length ∧ SV h₁ s₀ own₀ E mine' (St i) m' cm' s' ∧ IterAt (ownOf own₀ mine') It ds i s'.heap ∧ KpS (adr mine) s.heap s'.heap ∧ Dm s.heap s'.heap ∧
    (∀ a ∈ adr mine', a ∈ adr mine ∨ s.heap.get? a = none)) ?_ ds.length
    ⟨0, mine, m, cm, rfl, Nat.zero_le _, (I.kp (k1.trans k2)).weak h0, hit, kpS_of (k1.trans k2).heap _, .of (k1.trans k2).heap, fun a ha => .inl ha⟩
  rintro j s' ⟨i, mine', m', cm', rfl, hi, I', hit', ks, dm, hmn⟩
  have step : ∀ h', Heap.ExtBut It s'.heap h' → KpS (adr mine) s.heap h' ∧ Dm s.heap h' := fun h' hx => ⟨fun b o e hb h1 h2 => hx b o (fun q => by subst q; rw [hIts] at e; cases e) (ks b o e hb h1 h2), fun b o e => by
    obtain ⟨o', e'⟩ := dm b o e
    exact ⟨o', hx b o' (fun q => by subst q; rw [hIts] at e; cases e) e'⟩⟩
  by_cases hlt : i < ds.length
  · refine next_item hit' (List.getElem?_eq_getElem hlt) fun v h' tk rv hit2 hs2 => ?_
    obtain ⟨ks2, dm2⟩ := step h' hs2.extBut
    have I2 : SV h₁ s₀ own₀ E mine' (St i) m' cm' { s' with heap := h', toks := tk } := I'.but hI0 hit'.obj hs2.extBut rfl (.refl _)
    refine letGo_iter hit2 ?_
    obtain ⟨ρ₂, ρ₃, ha, hb, hle⟩ := turn i hlt
    refine asgT_sound I2 rm.hh ha rv fun s₃ m₃ cm₃ I₃ ks3 dm3 => ?_
    have hit3 : IterAt (ownOf own₀ mine') It ds (i + 1) s₃.heap := hit2.kps (X := []) ks3 fun b hb => nomatch hb
    have ks3' : KpS (adr mine) s.heap s₃.heap := ks2.trans ks3 fun a ha => nomatch ha
    have dm3' : Dm s.heap s₃.heap := dm2.trans dm3
    refine hb mine' m₃ cm₃ s₃ _ _ I₃ fun fl s₄ en => ?_
    obtain ⟨mine₄, m₄, cm₄, I₄, ks4, dm4, hm4, rfl⟩ := en
    refine ⟨ds.length - (i + 1), by omega, i + 1, mine₄, m₄, cm₄, rfl, hlt, I₄.weak hle, ?_, ks3'.trans ks4 hmn, dm3'.trans dm4, fun a ha => ?_⟩
    · have big : IterAt (ownOf own₀ mine' ++ ownOf own₀ mine₄) It ds (i + 1) s₃.heap := hit3.sub fun b hb ⟨o, e⟩ => by
        rcases List.mem_append.mp hb with hb | hb
        · exact hb
        · rcases List.mem_append.mp hb with hb | hb
          · exact List.mem_append_left _ hb
          · rcases hm4 b hb with q | q
            · exact List.mem_append_right _ q
            · rw [q] at e; cases e
      have big2 := big.kps ks4 fun b hb => ⟨List.mem_append_left _ (I₃.mineX b hb).1, (I₃.mineX b hb).2⟩
      exact big2.sub fun b hb _ => List.mem_append_right _ hb
    · rcases hm4 a ha with q | q
      · exact hmn a q
      · exact .inr (dm3'.none q)
  · have hie : i = ds.length := by omega
    subst hie
    refine next_done rm.hh hit' rfl fun h' hx => wpAny_execs_nil ?_
    obtain ⟨ks2, dm2⟩ := step h' hx
    exact hq _ _ ⟨mine', m', cm', I'.but hI0 hit'.obj hx rfl (.refl _), ks2, dm2, hmn, rfl⟩
end


noncomputable abbrev nHooks : Str := Str.ofString "hooks"
noncomputable abbrev nRings : Str := Str.ofString "rings"
noncomputable abbrev nRing : Str := Str.ofString "ring"
noncomputable abbrev nSound : Str := Str.ofString "sound"

/-! The run -/
noncomputable def b8 : List Stmt := (rc 8).body
noncomputable abbrev ns8 : List (Str × NameKind) := (rc 8).scope.names
noncomputable def g80 : Stmt := bAt (fB (bAt b8 2)) 0
noncomputable def g81 : Stmt := bAt (fB (bAt b8 2)) 1
noncomputable def g82 : Stmt := bAt (fB (bAt b8 2)) 2
noncomputable def t82 : Expr := iT g82
noncomputable def g83 : Stmt := bAt b8 3
noncomputable def t83 : Expr := iT g83
noncomputable def tE : Stmt → List Expr | .Assign [.Tuple es _ _] _ _ => es | _ => []
noncomputable def tuE : Expr → List Expr | .Tuple es _ _ => es | _ => []
noncomputable def tuK : Expr → Nat | .Tuple _ k _ => k | _ => 0
noncomputable def tuP : Expr → Pos | .Tuple _ _ p => p | _ => ⟨0, 0, 0, 0⟩
noncomputable def exAt (l : List Expr) (i : Nat) : Expr := l[i]?.getD nox
noncomputable def r84 : Expr := rE (bAt b8 4)
noncomputable def m84 : Expr := exAt (tuE r84) 0
theorem b8_eq : (rc 8).body = [bAt b8 0, bAt b8 1, .For (fT (bAt b8 2)) (fI (bAt b8 2)) [g80, g81, .If (.Compare (cL t82) [.IsNot] [cR t82] (cP t82)) (iB g82) [] (iP g82)] [] (fP (bAt b8 2)),
    .If (.Compare (cL t83) [.IsNot] [cR t83] (cP t83)) (iB g83) [] (iP g83),
    .Return (some (.Tuple [.ListComp (lE m84) [⟨.Name nK (lPx m84), lI m84, [], 0⟩] (lS m84) (lP m84), exAt (tuE r84) 1, exAt (tuE r84) 2] (tuK r84) (tuP r84))) (rP (bAt b8 4))] := by kernel_rfl

noncomputable def runEnv (R Δ : D) (n : Int) : List (Str × V) := [(nRow, .sh R), (nDress, .sh Δ), (nRings, .sh (.int n)), (nSound, .sh (.bool true))]
noncomputable def runEnvI (R Δ : D) (n : Int) (i : Int) : List (Str × V) := [(nRow, .sh R), (nDress, .sh Δ), (nRings, .sh (.int n)), (nSound, .sh (.bool true)), (nI, .sh (.int i))]
noncomputable def runEnvH (R Δ : D) (n g : Int) : List (Str × V) := [(nRow, .sh R), (nDress, .sh Δ), (nRings, .sh (.int n)), (nSound, .sh (.bool true)), (nRing, .sh (.int g))]
noncomputable def matesD (r : Nat) : D := .lst ((List.range 6).map fun j => .lst [.int (mateT r j)])
theorem r_i (R Δ : D) (n i : Int) : ((runEnvI R Δ n i).map (·.1)).map (upd (envL (runEnv R Δ n)) nI (.sh (.int i))) = (runEnvI R Δ n i).map fun p => some p.2 := by kernel_rfl
noncomputable def tupO (es : List Expr) (ρ : Str → Option V) (o : Option D) : Option (FlowD × (Str → Option V)) := match o with
    | some (.tup ds) => (match asgNames ns8 es ds ρ with | some ρ' => some (.next, ρ') | Option.none => Option.none)
    | _ => Option.none
theorem r_g0 (Φ : Fn) (R Δ : D) (n i : Int) : ex1 fns5 Φ [] ns8 20 (envL (runEnvI R Δ n i)) g80 = tupO (tE g80) (envL (runEnvI R Δ n i)) (Φ fHook [R, Δ, .int i]) := by kernel_rfl
theorem r_h0 (R Δ R' : D) (n i g : Int) : got ((runEnvH R' Δ n g).map (·.1)) (tupO (tE g80) (envL (runEnvI R Δ n i)) (some (.tup [R', .int g]))) = some ((runEnvH R' Δ n g).map fun p => some p.2) := by kernel_rfl
theorem r_g1 (Φ : Fn) (R Δ : D) (n g : Int) : got ((runEnv R Δ (n + g)).map (·.1)) (ex1 fns5 Φ [] ns8 20 (envL (runEnvH R Δ n g)) g81) = some ((runEnv R Δ (n + g)).map fun p => some p.2) := by kernel_rfl
theorem r_cl (Φ : Fn) (R Δ : D) (n : Int) : ev fns5 Φ 20 ns8 (shρ (envL (runEnv R Δ n))) (cL t82) = app1 (Φ fCheck) (Φ fText [R, Δ, .rng 0 6 1]) := by kernel_rfl
theorem r_cr (Φ : Fn) (R Δ : D) (n : Int) : ev fns5 Φ 20 ns8 (shρ (envL (runEnv R Δ n))) (cR t82) = some (.bool true) := by kernel_rfl
theorem r_bm : behindInMarks .IsNot (cR t82) = false := by kernel_rfl
theorem r_cl3 (Φ : Fn) (R Δ : D) (n : Int) : ev fns5 Φ 20 ns8 (shρ (envL (runEnv R Δ n))) (cL t83) = app1 (Φ fCheck) (Φ fText [R, Δ, turnD]) := by kernel_rfl
theorem r_cr3 (Φ : Fn) (R Δ : D) (n : Int) : ev fns5 Φ 20 ns8 (shρ (envL (runEnv R Δ n))) (cR t83) = some (.bool false) := by kernel_rfl
theorem r_bm3 : behindInMarks .IsNot (cR t83) = false := by kernel_rfl
noncomputable abbrev r_ρ (R Δ : D) (n : Int) : Str → Option D := shρ (freeze (envL (runEnv R Δ n)))
theorem r_ok (R Δ : D) (n : Int) : compOk ns8 (r_ρ R Δ n) (lS m84) nK = true := by kernel_rfl
theorem r_it (Φ : Fn) (R Δ : D) (n : Int) : ev fns5 Φ 18 ns8 (r_ρ R Δ n) (lI m84) = some (.rng 0 6 1) := by kernel_rfl
noncomputable def lstO (x : Option D) : Option D := match (match x, (some [] : Option (List D)) with | some d, some ds => some (d :: ds) | _, _ => Option.none) with
  | some ds => if ds.length ≤ 10000 then some (.lst ds) else Option.none
  | _ => Option.none
theorem r_el (Φ : Fn) (R Δ j : D) (n : Int) : ev fns5 Φ 18 (relNames ns8 (lS m84)) (compρ (r_ρ R Δ n) (lS m84) nK j) (lE m84) = lstO (Φ fMate [R, Δ, j]) := by kernel_rfl
theorem r_x1 (Φ : Fn) (R Δ : D) (n : Int) : ev fns5 Φ 19 ns8 (r_ρ R Δ n) (exAt (tuE r84) 1) = some (.int n) := by kernel_rfl
theorem r_x2 (Φ : Fn) (R Δ : D) (n : Int) : ev fns5 Φ 19 ns8 (r_ρ R Δ n) (exAt (tuE r84) 2) = some (.bool true) := by kernel_rfl
theorem r_s1 : notStar (exAt (tuE r84) 1) = true := by kernel_rfl
theorem r_s2 : notStar (exAt (tuE r84) 2) = true := by kernel_rfl
theorem ev_tup3 {fns : List Str} {Φ : Fn} {n : Nat} {ns : List (Str × NameKind)} {ρ : Str → Option D} {a b c : Expr} {x y z : D} {kk : Nat} {p : Pos} (ha : notStar a = true) (hb : notStar b = true) (hc : notStar c = true) (h1 : ev fns Φ n ns ρ a = some x) (h2 : ev fns Φ n ns ρ b = some y) (h3 : ev fns Φ n ns ρ c = some z) :
    ev fns Φ (n + 1) ns ρ (.Tuple [a, b, c] kk p) = some (.tup [x, y, z]) := by
  show evW fns Φ (ev fns Φ n) ns ρ (.tuple [a, b, c] kk p) = _
  simp only [evW, evL, ha, hb, hc, if_true, h1, h2, h3]
  simp
noncomputable def numD (n : Nat) : List D := (List.range n).map fun k => .int (k : Nat)
theorem iter6 : iterD (.rng 0 6 1) = some (numD 6) := by kernel_rfl

noncomputable def runP : Nat → Int → List Nat → Nat × Int
  | r, n, [] => (r, n)
  | r, n, i :: is => runP (hookT r i).1 (n + (hookT r i).2) is
theorem runP_snoc : ∀ (l : List Nat) (r : Nat) (n : Int) (i : Nat), runP r n (l ++ [i]) = ((hookT (runP r n l).1 i).1, (runP r n l).2 + (hookT (runP r n l).1 i).2)
  | [], _, _, _ => rfl
  | _ :: l, _, _, i => runP_snoc l _ _ i
theorem hook_lt : ((List.range 5).all fun r => (List.range 5).all fun i => decide ((hookT r i).1 < 5)) = true := by decide +kernel
theorem runP_lt : ∀ (l : List Nat) (r : Nat) (n : Int), r < 5 → (∀ i ∈ l, i < 5) → (runP r n l).1 < 5
  | [], _, _, h, _ => h
  | i :: l, r, n, h, hl => by
    refine runP_lt l _ _ ?_ fun j hj => hl j (List.mem_cons_of_mem _ hj)
    have := List.all_eq_true.mp (List.all_eq_true.mp hook_lt r (List.mem_range.mpr h)) i (List.mem_range.mpr (hl i List.mem_cons_self))
    simpa using this

noncomputable def hooksD (hs : List Nat) : D := .lst (hs.map fun i => .int (i : Nat))
theorem run_asg (R Δ : D) (n : Int) (d : D) : asgT ns8 (fT (bAt b8 2)) d (envL (runEnv R Δ n)) = some (upd (envL (runEnv R Δ n)) nI (.sh d)) := by kernel_rfl
noncomputable def runEnv0 (R Δ : D) (H : D) : List (Str × V) := [(nRow, .sh R), (nDress, .sh Δ), (nHooks, .sh H)]
noncomputable def runEnv1 (R Δ : D) (H : D) : List (Str × V) := [(nRow, .sh R), (nDress, .sh Δ), (nHooks, .sh H), (nRings, .sh (.int 0))]
noncomputable def runEnv2 (R Δ : D) (H : D) : List (Str × V) := [(nRow, .sh R), (nDress, .sh Δ), (nHooks, .sh H), (nRings, .sh (.int 0)), (nSound, .sh (.bool true))]
theorem run_s0 (Φ : Fn) (R Δ : D) (H : D) : got ((runEnv1 R Δ H).map (·.1)) (ex1 fns5 Φ [] ns8 20 (envL (runEnv0 R Δ H)) (bAt b8 0)) = some ((runEnv1 R Δ H).map fun p => some p.2) := by kernel_rfl
theorem run_s1 (Φ : Fn) (R Δ : D) (H : D) : got ((runEnv2 R Δ H).map (·.1)) (ex1 fns5 Φ [] ns8 20 (envL (runEnv1 R Δ H)) (bAt b8 1)) = some ((runEnv2 R Δ H).map fun p => some p.2) := by kernel_rfl
theorem run_iter (Φ : Fn) (R Δ : D) (H : D) : ev fns5 Φ 20 ns8 (shρ (envL (runEnv2 R Δ H))) (fI (bAt b8 2)) = some H := by kernel_rfl
theorem run_bind (R Δ : D) (H : D) : ((runEnv0 R Δ H).map (·.1)).map (bindρ psRun [R, Δ, H] fun _ => Option.none) = (runEnv0 R Δ H).map fun p => some p.2 := by kernel_rfl

theorem full_ok : ((List.range 5).all fun r => ckT r 0 5 == some true) = true := by decide +kernel
section
variable {prog : Program} {w : World} {h₁ : Heap} {K : Nat} {A : Around} {s₀ : Shared} {own₀ : List Addr} {E : Env}
theorem ck5 (t : D) : Φ5' fCheck [t] = Φ3 fCheck [t] := by
  unfold Φ5' Φ4'
  rw [if_neg (by decide), if_neg (by decide)]
theorem tx5 (ds : List D) : Φ5' fText ds = Φ3 fText ds := by
  unfold Φ5' Φ4'
  rw [if_neg (by decide), if_neg (by decide)]
theorem app5 (ds : List D) : app1 (Φ5' fCheck) (Φ5' fText ds) = chk (Φ3 fText ds) := by
  unfold chk
  rw [tx5]
  cases Φ3 fText ds with
  | none => rfl
  | some t => exact ck5 t
theorem full_at {r k : Nat} (hr : r < 5) (hk : k < 7) : app1 (Φ5' fCheck) (Φ5' fText [row r, dress k, .rng 0 6 1]) = some (.bool true) := by
  rw [app5]
  have h := List.all_eq_true.mp full_ok r (List.mem_range.mpr hr)
  exact ct (lo := 0) (hi := 5) hr hk (by omega) (by omega) (by simpa using h)
theorem turn_at {r k : Nat} (hr : r < 5) (hk : k < 7) : app1 (Φ5' fCheck) (Φ5' fText [row r, dress k, turnD]) = some (.bool false) := by
  rw [app5]
  exact ct_turn hr hk

/-- one hook of the run -/
theorem run_turn (X : Cx prog w h₁ K fns5 Φ5') (rm : Rm A K) (hE : E.scope.names = ns8) {r k i : Nat} (hr : r < 5) (hk : k < 7) (hi : i < 5) (n : Int) :
    ∃ ρ₃, XS prog w h₁ s₀ own₀ E A (upd (envL (runEnv (row r) (dress k) n)) nI (.sh (.int (i : Nat)))) .next ρ₃ (execs [g80, g81, .If (.Compare (cL t82) [.IsNot] [cR t82] (cP t82)) (iB g82) [] (iP g82)] E) ∧
      ∀ z v, envL (runEnv (row (hookT r i).1) (dress k) (n + (hookT r i).2)) z = some v → ρ₃ z = some v := by
  have hlt : (hookT r i).1 < 5 := by
    have := List.all_eq_true.mp (List.all_eq_true.mp hook_lt r (List.mem_range.mpr hr)) i (List.mem_range.mpr hi)
    simpa using this
  have hh : Φ5' fHook [row r, dress k, .int (i : Nat)] = some (.tup [row (hookT r i).1, .int (hookT r i).2]) := (if_pos rfl).trans (tab3_at hr hk hi)
  refine ⟨envL (runEnv (row (hookT r i).1) (dress k) (n + (hookT r i).2)), ?_, fun z v e => e⟩
  refine XS.weak (envL_got (r_i (row r) (dress k) n (i : Nat))) ?_
  refine XS.step1 X rm hE (l' := runEnvH (row (hookT r i).1) (dress k) n (hookT r i).2) (by rw [r_g0 Φ5', hh]; exact r_h0 _ _ _ _ _ _) ?_
  refine XS.step1 X rm hE (l' := runEnv (row (hookT r i).1) (dress k) (n + (hookT r i).2)) (r_g1 Φ5' _ _ _ _) ?_
  refine XS.seq (XS.ifT X rm (n := 20) (b := false) ?_ ?_) XS.nil
  · rw [hE]
    exact tst_cmp ((r_cl Φ5' _ _ _).trans (full_at hlt hk)) (r_cr Φ5' _ _ _) rfl r_bm
  · rw [if_neg (by simp)]
    exact XS.nil
theorem run_mates {r k : Nat} (hr : r < 5) (hk : k < 7) (n : Int) : ev fns5 Φ5' 19 ns8 (r_ρ (row r) (dress k) n) (.ListComp (lE m84) [⟨.Name nK (lPx m84), lI m84, [], 0⟩] (lS m84) (lP m84)) = some (matesD r) := by
  have := ev_compA (fns := fns5) (Φ := Φ5') (px := lPx m84) (pos := lP m84) (elt := lE m84) (fun d => match d with | .int j => .lst [.int (mateT r j.toNat)] | d => d) (r_ok (row r) (dress k) n) (r_it Φ5' _ _ _) iter6 (by simp [numD]) fun it hit => ?_
  · refine this.trans ?_
    unfold matesD numD
    rw [List.map_map]
    rfl
  · obtain ⟨j, hj, rfl⟩ := List.mem_map.mp hit
    have hj' := List.mem_range.mp hj
    rw [r_el Φ5']
    have e : Φ5' fMate [row r, dress k, .int (j : Nat)] = some (.int (mateT r j)) := by
      unfold Φ5' Φ4'
      rw [if_neg (by decide), if_pos rfl]
      exact tab3_at hr hk hj'
    rw [e]
    rfl
end
theorem run_xs {prog : Program} {w : World} {h₁ : Heap} {K : Nat} (X : Cx prog w h₁ K fns5 Φ5') {r k : Nat} (hr : r < 5) (hk : k < 7) {hs : List Nat} (hh : ∀ i ∈ hs, i < 5) (hlen : hs.length ≤ 10000) :
    ∃ ρ', ∀ (own : List Addr) (A : Around) (s₀ : Shared) (E : Env), Rm A K → E.scope = (rc 8).scope →
      XS prog w h₁ s₀ own E A (bindρ psRun [row r, dress k, hooksD hs] fun _ => Option.none) (.ret (.tup [matesD (runP r 0 hs).1, .int (runP r 0 hs).2, .bool true])) ρ' (execs (rc 8).body E) := by
  have hr' := runP_lt hs r 0 hr hh
  refine ⟨freeze (envL (runEnv (row (runP r 0 hs).1) (dress k) (runP r 0 hs).2)), fun own A s₀ E rm hE => ?_⟩
  have hE' : E.scope.names = ns8 := by rw [hE]
  rw [b8_eq]
  refine XS.weak (envL_got (run_bind (row r) (dress k) (hooksD hs))) (XS.step1 X rm hE' (run_s0 Φ5' _ _ _) (XS.step1 X rm hE' (run_s1 Φ5' _ _ _) ?_))
  refine XS.seq (ρ₁ := envL (runEnv (row (runP r 0 (hs.take (hs.map fun i => D.int (i : Nat)).length)).1) (dress k) (runP r 0 (hs.take (hs.map fun i => D.int (i : Nat)).length)).2))
    (for_inv X (n := 20) rm (fun j => envL (runEnv (row (runP r 0 (hs.take j)).1) (dress k) (runP r 0 (hs.take j)).2)) (by rw [hE']; exact run_iter Φ5' _ _ _) (ds := hs.map fun i => .int (i : Nat)) (by simp [hooksD, iterD, hlen]) (envL_got (by kernel_rfl)) fun j hj => ?_) ?_
  · have hj' : j < hs.length := by simpa using hj
    have hrj : (runP r 0 (hs.take j)).1 < 5 := runP_lt _ r 0 hr fun i hi => hh i (List.mem_of_mem_take hi)
    have hij : hs[j] < 5 := hh _ (List.getElem_mem hj')
    obtain ⟨ρ₃, x3, h3⟩ := run_turn (A := A) (s₀ := s₀) (own₀ := own) X rm hE' hrj hk hij (runP r 0 (hs.take j)).2
    refine ⟨_, ρ₃, by rw [hE']; exact run_asg _ _ _ _, ?_, ?_⟩
    · rw [List.getElem_map]
      exact x3
    · have e : hs.take (j + 1) = hs.take j ++ [hs[j]] := by rw [List.take_succ_eq_append_getElem hj']
      rw [e, runP_snoc]
      exact h3
  · have e : hs.take (hs.map fun i => D.int (i : Nat)).length = hs := by simp
    rw [e]
    refine XS.seq (ρ₁ := envL (runEnv (row (runP r 0 hs).1) (dress k) (runP r 0 hs).2)) (XS.ifT X rm (n := 20) (b := false) ?_ ?_) ?_
    · rw [hE']
      exact tst_cmp ((r_cl3 Φ5' _ _ _).trans (turn_at hr' hk)) (r_cr3 Φ5' _ _ _) rfl r_bm3
    · rw [if_neg (by simp)]
      exact XS.nil
    · refine XS.stop (return_sound X (n := 20) rm ?_)
      rw [hE']
      exact ev_tup3 rfl r_s1 r_s2 (run_mates hr' hk _) (r_x1 Φ5' _ _ _) (r_x2 Φ5' _ _ _)

/-- the hooks, read -/
noncomputable def hookOf : D → Option Nat | .int i => if 0 ≤ i ∧ i < 5 then some i.toNat else Option.none | _ => Option.none
noncomputable def hooksOf : List D → Option (List Nat)
  | [] => some []
  | d :: ds => match hookOf d, hooksOf ds with | some i, some is => some (i :: is) | _, _ => Option.none
theorem hooksOf_spec : ∀ {ds : List D} {hs : List Nat}, hooksOf ds = some hs → ds = hs.map (fun i => .int (i : Nat)) ∧ ∀ i ∈ hs, i < 5
  | [], hs, h => by cases h; exact ⟨rfl, fun i hi => nomatch hi⟩
  | d :: ds, hs, h => by
    unfold hooksOf at h
    split at h
    · rename_i i is hi his
      cases h
      obtain ⟨h1, h2⟩ := hooksOf_spec his
      unfold hookOf at hi
      split at hi
      · split at hi
        · rename_i hc
          cases hi
          refine ⟨by rw [h1]; simp [Int.toNat_of_nonneg hc.1], fun j hj => ?_⟩
          rcases List.mem_cons.mp hj with rfl | hj
          · omega
          · exact h2 j hj
        · cases hi
      · cases hi
    · cases h
noncomputable def tRun : List D → Option D
  | [x, δ, .lst ds] => (match rowIdx x, dressIdx δ, hooksOf ds with | some r, some _, some hs => if hs.length ≤ 10000 then some (.tup [matesD (runP r 0 hs).1, .int (runP r 0 hs).2, .bool true]) else Option.none | _, _, _ => Option.none)
  | _ => Option.none
noncomputable def Φ6 : Fn := fun g ds => if g = fRun then tRun ds else Φ5' g ds
noncomputable def fns6 : List Str := fRun :: fns5
theorem Facts.x6 {mg mb : Str → Option Value} {h₁ : Heap} {prog : Program} {w : World} (F : Facts mg mb h₁) : Cx prog w h₁ 8 fns6 Φ6 := F.push F.x5' 8 (by decide +kernel) (by decide +kernel) bnd8 (Nat.lt_succ_self _) fun ds d h => by
  unfold tRun at h
  split at h
  · split at h
    · rename_i r k hs hr hk hh
      split at h
      · rename_i hl
        cases h
        obtain ⟨h1, rfl⟩ := rowIdx_spec hr
        obtain ⟨h2, rfl⟩ := dressIdx_spec hk
        obtain ⟨rfl, h3⟩ := hooksOf_spec hh
        exact ⟨rfl, run_xs F.x5' h1 h2 h3 hl⟩
      · cases h
    · cases h
  · cases h
end Mine
namespace Mine

noncomputable abbrev nArcs : Str := Str.ofString "arcs"
noncomputable abbrev nJoins : Str := Str.ofString "joins"
noncomputable abbrev nH : Str := Str.ofString "h"
noncomputable abbrev nMarks : Str := Str.ofString "marks"
noncomputable abbrev nAa : Str := Str.ofString "a"
noncomputable abbrev nB : Str := Str.ofString "b"
noncomputable abbrev nOld : Str := Str.ofString "old"
noncomputable abbrev nNew : Str := Str.ofString "new"
noncomputable abbrev nTop : Str := Str.ofString "top"

noncomputable def b7 : List Stmt := (rc 7).body
noncomputable abbrev ns7 : List (Str × NameKind) := (rc 7).scope.names
noncomputable def m7 : List Str := [nJoins]
theorem b7_eq : (rc 7).body = [bAt b7 0, .For (fT (bAt b7 1)) (fI (bAt b7 1)) (fB (bAt b7 1)) [] (fP (bAt b7 1)), bAt b7 2, .For (fT (bAt b7 3)) (fI (bAt b7 3)) (fB (bAt b7 3)) [] (fP (bAt b7 3)), bAt b7 4, bAt b7 5, bAt b7 6] := by kernel_rfl

noncomputable def pairD (p : Nat × Nat) : D := .tup [.int (p.1 : Nat), .int (p.2 : Nat)]
noncomputable def stepP (h i : Nat) : List (Nat × Nat) := (6 * h + i, 6 * h + i + 1) :: (6 * h + 6 + i, 6 * h + 6 + i + 1) :: ((List.range 6).filter fun k => k != i && k != i + 1).map fun k => (6 * h + k, 6 * h + 6 + k)

noncomputable def e70 (J : List D) (H : D) : List (Str × V) := [(nArcs, .sh (.lst J)), (nHooks, .sh H)]
noncomputable def e71 (J : List D) (H : D) : List (Str × V) := [(nHooks, .sh H), (nJoins, .ow J)]
noncomputable def m0 : List D := (List.range 30).map fun z => .int (z : Nat)
noncomputable def e72 (J : List D) (H : D) : List (Str × V) := [(nHooks, .sh H), (nJoins, .ow J), (nMarks, .sh (.lst m0))]
noncomputable abbrev sym (m : Nat) (j : Nat → D) : List D := (List.range m).map j

theorem st_bind (J : List D) (H : D) : ((e70 J H).map (·.1)).map (bindρ psStrands [.lst J, H] fun _ => Option.none) = (e70 J H).map fun p => some p.2 := by kernel_rfl
theorem st_s0 (j : Nat → D) (H : D) : got ((e71 (sym 3 j) H).map (·.1)) (ex1 [] Φ0 m7 ns7 20 (envL (e70 (sym 3 j) H)) (bAt b7 0)) = some ((e71 (sym 3 j) H).map fun p => some p.2) := by kernel_rfl
theorem st_i1 (u : Nat → D) (J : List D) : ev [] Φ0 20 ns7 (shρ (envL (e71 J (.lst (sym 4 u))))) (fI (bAt b7 1)) = some (.rng 0 4 1) := by kernel_rfl
theorem st_a1 (J : List D) (H d : D) : asgT ns7 (fT (bAt b7 1)) d (envL (e71 J H)) = some (upd (envL (e71 J H)) nH (.sh d)) := by kernel_rfl
noncomputable abbrev oneU (h i : Nat) (u : Nat → D) : D := .lst (sym 4 fun z => if z = h then .int (i : Nat) else u z)
noncomputable abbrev T1L (h m i : Nat) : (Nat → D) → (Nat → D) → Option (List (Option V)) := fun u j => got [nHooks, nJoins] (exS [] Φ0 m7 ns7 20 (upd (envL (e71 (sym m j) (oneU h i u))) nH (.sh (.int (h : Nat)))) (fB (bAt b7 1)))
noncomputable abbrev T1R (h m i : Nat) : (Nat → D) → (Nat → D) → Option (List (Option V)) := fun u j => some [some (.sh (oneU h i u)), some (.ow (sym m j ++ (stepP h i).map pairD))]
theorem st_t0 : [T1L 0 3 0, T1L 0 3 1, T1L 0 3 2, T1L 0 3 3, T1L 0 3 4] = [T1R 0 3 0, T1R 0 3 1, T1R 0 3 2, T1R 0 3 3, T1R 0 3 4] := by kernel_rfl
theorem st_t1 : [T1L 1 9 0, T1L 1 9 1, T1L 1 9 2, T1L 1 9 3, T1L 1 9 4] = [T1R 1 9 0, T1R 1 9 1, T1R 1 9 2, T1R 1 9 3, T1R 1 9 4] := by kernel_rfl
theorem st_t2 : [T1L 2 15 0, T1L 2 15 1, T1L 2 15 2, T1L 2 15 3, T1L 2 15 4] = [T1R 2 15 0, T1R 2 15 1, T1R 2 15 2, T1R 2 15 3, T1R 2 15 4] := by kernel_rfl
theorem st_t3 : [T1L 3 21 0, T1L 3 21 1, T1L 3 21 2, T1L 3 21 3, T1L 3 21 4] = [T1R 3 21 0, T1R 3 21 1, T1R 3 21 2, T1R 3 21 3, T1R 3 21 4] := by kernel_rfl
theorem st_s2 (u : Nat → D) (J : List D) : got ((e72 J (.lst (sym 4 u))).map (·.1)) (ex1 [] Φ0 m7 ns7 20 (envL (e71 J (.lst (sym 4 u)))) (bAt b7 2)) = some ((e72 J (.lst (sym 4 u))).map fun p => some p.2) := by kernel_rfl
theorem st_i3 (J : List D) (H : D) : ev [] Φ0 20 ns7 (shρ (freeze (envL (e72 J H)))) (fI (bAt b7 3)) = some (.lst J) := by kernel_rfl
theorem st_ow (J : List D) (H : D) : isOw (envL (e72 J H)) (fI (bAt b7 3)) = true := by kernel_rfl
end Mine
namespace Mine

theorem t1_all {h i : Nat} (hh : h < 4) (hi : i < 5) (u j : Nat → D) : T1L h (3 + 6 * h) i u j = T1R h (3 + 6 * h) i u j := by
  have e : T1L h (3 + 6 * h) i = T1R h (3 + 6 * h) i := by
    match h, hh with
    | 0, _ => exact five_of (f := T1L 0 3) (g := T1R 0 3) st_t0 hi
    | 1, _ => exact five_of (f := T1L 1 9) (g := T1R 1 9) st_t1 hi
    | 2, _ => exact five_of (f := T1L 2 15) (g := T1R 2 15) st_t2 hi
    | 3, _ => exact five_of (f := T1L 3 21) (g := T1R 3 21) st_t3 hi
  exact congrFun (congrFun e u) j

noncomputable def JL (base : List D) (hs : List Nat) (h : Nat) : List D := base ++ ((List.range h).flatMap fun t => (stepP t (hs[t]?.getD 0)).map pairD)
theorem JL_succ (base : List D) (hs : List Nat) (h : Nat) : JL base hs (h + 1) = JL base hs h ++ (stepP h (hs[h]?.getD 0)).map pairD := by
  unfold JL
  rw [List.range_succ, List.flatMap_append, List.append_assoc]
  simp
theorem stepP_len {h i : Nat} (hi : i < 5) : (stepP h i).length = 6 := by
  unfold stepP
  simp only [List.length_cons, List.length_map]
  match i, hi with
  | 0, _ => rfl
  | 1, _ => rfl
  | 2, _ => rfl
  | 3, _ => rfl
  | 4, _ => rfl
theorem JL_len {base : List D} (hb : base.length = 3) {hs : List Nat} (hlt : ∀ t : Nat, hs[t]?.getD 0 < 5) : ∀ h, (JL base hs h).length = 3 + 6 * h
  | 0 => by simp [JL, hb]
  | h + 1 => by rw [JL_succ, List.length_append, JL_len hb hlt h, List.length_map, stepP_len (hlt h)]; omega
theorem eq_sym {l : List D} {m : Nat} (h : l.length = m) : l = sym m fun z => l[z]?.getD .none := by
  subst h
  refine List.ext_getElem (by simp) fun i h1 h2 => ?_
  simp [h1]
noncomputable def uH (hs : List Nat) : Nat → D := fun z => .int ((hs[z]?.getD 0 : Nat) : Int)
theorem hooksD_sym {hs : List Nat} (h : hs.length = 4) : hooksD hs = .lst (sym 4 (uH hs)) := by
  unfold hooksD
  congr 1
  refine List.ext_getElem (by simp [h]) fun i h1 h2 => ?_
  have : i < hs.length := by simpa using h1
  simp [uH, this]
theorem oneU_eq (hs : List Nat) (h : Nat) : oneU h (hs[h]?.getD 0) (uH hs) = .lst (sym 4 (uH hs)) := by
  have : (fun z => if z = h then D.int ((hs[h]?.getD 0 : Nat) : Int) else uH hs z) = uH hs := by
    funext z
    by_cases q : z = h
    · rw [if_pos q, q]; rfl
    · rw [if_neg q]
  show D.lst (sym 4 fun z => if z = h then D.int ((hs[h]?.getD 0 : Nat) : Int) else uH hs z) = _
  rw [this]
theorem hs_lt {hs : List Nat} (h : ∀ i ∈ hs, i < 5) (t : Nat) : hs[t]?.getD 0 < 5 := by
  cases e : hs[t]? with
  | none => simp
  | some i => simpa using h i (List.mem_of_getElem? e)

section
variable {prog : Program} {w : World} {h₁ : Heap} {k : Nat} {A : Around} {s₀ : Shared} {own₀ : List Addr} {E : Env}

theorem st_loop1 (X : Cx prog w h₁ k [] Φ0) (rm : Rm A k) (hE : E.scope.names = ns7) {base : List D} (hb : base.length = 3) {hs : List Nat} (hlt : ∀ t : Nat, hs[t]?.getD 0 < 5) {pos : Pos} :
    XS prog w h₁ s₀ own₀ E A (envL (e71 base (.lst (sym 4 (uH hs))))) .next (envL (e71 (JL base hs 4) (.lst (sym 4 (uH hs))))) (exec (.For (fT (bAt b7 1)) (fI (bAt b7 1)) (fB (bAt b7 1)) [] pos) E) := by
  refine for_inv X (n := 20) rm (fun j => envL (e71 (JL base hs j) (.lst (sym 4 (uH hs))))) (by rw [hE]; exact st_i1 _ _) (ds := [.int 0, .int 1, .int 2, .int 3]) (by kernel_rfl) (by simp [JL]) fun h hh => ?_
  have hh' : h < 4 := hh
  have hd : ([.int 0, .int 1, .int 2, .int 3] : List D)[h] = .int (h : Nat) := by
    match h, hh' with
    | 0, _ => rfl
    | 1, _ => rfl
    | 2, _ => rfl
    | 3, _ => rfl
  rw [hd]
  have t := t1_all hh' (hlt h) (uH hs) (fun z => (JL base hs h)[z]?.getD .none)
  have es := eq_sym (JL_len hb hlt h)
  unfold T1L T1R at t
  rw [← es, oneU_eq] at t
  obtain ⟨ρ₃, e3, h3⟩ := got_spec t
  refine ⟨_, ρ₃, by rw [hE]; exact st_a1 _ _ _, ?_, ?_⟩
  · rw [← hE] at e3
    exact exS_sound X rm 20 _ _ _ _ e3
  · show ∀ z v, envL (e71 (JL base hs (h + 1)) _) z = some v → _
    rw [JL_succ]
    exact envL_got h3
end

end Mine
namespace Mine

/-- the marks -/
noncomputable def MD (m : List Int) : D := .lst (m.map .int)
noncomputable def getI (m : List Int) (a : Nat) : Int := m[a]?.getD 0
theorem idx_md {m : List Int} {a : Nat} (h : a < m.length) (h2 : m.length ≤ 10000) : idxD (MD m) (.int (a : Nat)) = some (.int (getI m a)) := by
  unfold idxD MD getI
  simp only
  rw [if_pos (by omega)]
  simp [h]
noncomputable def stepM (m : List Int) (p : Nat × Nat) : List Int := if getI m p.1 = getI m p.2 then m else m.map fun z => if z == getI m p.2 then getI m p.1 else z
theorem stepM_len (m : List Int) (p : Nat × Nat) : (stepM m p).length = m.length := by unfold stepM; split <;> simp

noncomputable def s73 : Stmt := bAt (fB (bAt b7 3)) 0
noncomputable def t73 : Expr := iT s73
noncomputable def o73 : Stmt := bAt (iB s73) 0
noncomputable def n73 : Stmt := bAt (iB s73) 1
noncomputable def k73 : Stmt := bAt (iB s73) 2
noncomputable def v73 : Expr := aV k73
theorem b73_eq : fB (bAt b7 3) = [.If (.Compare (cL t73) [.NotEq] [cR t73] (cP t73)) [.Assign [.Name nOld (aX o73)] (aV o73) (aP o73), .Assign [.Name nNew (aX n73)] (aV n73) (aP n73),
    .Assign [.Name nMarks (aX k73)] (.ListComp (lE v73) [⟨.Name (Str.ofString "mark") (lPx v73), lI v73, [], 0⟩] (lS v73) (lP v73)) (aP k73)] [] (iP s73)] := by kernel_rfl
noncomputable def e73 (m : List Int) (H : D) : List (Str × V) := [(nHooks, .sh H), (nMarks, .sh (MD m))]
noncomputable def r732 (m : List Int) (H : D) (a b : Int) : Str → Option V := upd (upd (envL (e73 m H)) nAa (.sh (.int a))) nB (.sh (.int b))
noncomputable def r733 (m : List Int) (H : D) (a b vb : Int) : Str → Option V := upd (r732 m H a b) nOld (.sh (.int vb))
noncomputable def r734 (m : List Int) (H : D) (a b vb va : Int) : Str → Option V := upd (r733 m H a b vb) nNew (.sh (.int va))
theorem a73 (m : List Int) (H : D) (a b : Int) : asgT ns7 (fT (bAt b7 3)) (.tup [.int a, .int b]) (envL (e73 m H)) = some (r732 m H a b) := by kernel_rfl
theorem tl73 (m : List Int) (H : D) (a b : Int) : ev [] Φ0 20 ns7 (shρ (r732 m H a b)) (cL t73) = idxD (MD m) (.int a) := by kernel_rfl
theorem tr73 (m : List Int) (H : D) (a b : Int) : ev [] Φ0 20 ns7 (shρ (r732 m H a b)) (cR t73) = idxD (MD m) (.int b) := by kernel_rfl
theorem bm73 : behindInMarks .NotEq (cR t73) = false := by kernel_rfl
theorem ko73 (m : List Int) (H : D) (a b : Int) : okVar ns7 (r732 m H a b) nOld = true := by kernel_rfl
theorem vo73 (m : List Int) (H : D) (a b : Int) : ev [] Φ0 20 ns7 (shρ (r732 m H a b)) (aV o73) = idxD (MD m) (.int b) := by kernel_rfl
theorem kn73 (m : List Int) (H : D) (a b vb : Int) : okVar ns7 (r733 m H a b vb) nNew = true := by kernel_rfl
theorem vn73 (m : List Int) (H : D) (a b vb : Int) : ev [] Φ0 20 ns7 (shρ (r733 m H a b vb)) (aV n73) = idxD (MD m) (.int a) := by kernel_rfl
theorem kk73 (m : List Int) (H : D) (a b vb va : Int) : okVar ns7 (r734 m H a b vb va) nMarks = true := by kernel_rfl
theorem ck73 (m : List Int) (H : D) (a b vb va : Int) : compOk ns7 (shρ (r734 m H a b vb va)) (lS v73) (Str.ofString "mark") = true := by kernel_rfl
theorem ci73 (m : List Int) (H : D) (a b vb va : Int) : ev [] Φ0 19 ns7 (shρ (r734 m H a b vb va)) (lI v73) = some (MD m) := by kernel_rfl
theorem ce73 (m : List Int) (H : D) (a b vb va z : Int) : ev [] Φ0 19 (relNames ns7 (lS v73)) (compρ (shρ (r734 m H a b vb va)) (lS v73) (Str.ofString "mark") (.int z)) (lE v73) = (match (z == vb) with | true => some (.int va) | false => some (.int z)) := by kernel_rfl

noncomputable def m00 : List Int := (List.range 30).map fun z => ((z : Nat) : Int)
noncomputable def allP (base : List (Nat × Nat)) (hs : List Nat) : List (Nat × Nat) := base ++ (List.range 4).flatMap fun t => stepP t (hs[t]?.getD 0)
theorem JL_all (base : List (Nat × Nat)) (hs : List Nat) : JL (base.map pairD) hs 4 = (allP base hs).map pairD := by
  unfold JL allP
  rw [List.map_append, List.map_flatMap]
theorem foldM_len (l : List (Nat × Nat)) : ∀ m : List Int, (l.foldl stepM m).length = m.length := by
  induction l with
  | nil => intro m; rfl
  | cons p l ih => intro m; rw [List.foldl_cons, ih, stepM_len]
theorem fr72 (J : List D) (H : D) : ((e73 m00 H).map (·.1)).map (freeze (envL (e72 J H))) = (e73 m00 H).map fun p => some p.2 := by kernel_rfl

section
variable {prog : Program} {w : World} {h₁ : Heap} {k : Nat} {A : Around} {s₀ : Shared} {own₀ : List Addr} {E : Env}

/-- one pair joined -/
theorem st_turn (X : Cx prog w h₁ k [] Φ0) (rm : Rm A k) (hE : E.scope.names = ns7) {m : List Int} (hm : m.length = 30) (H : D) {p : Nat × Nat} (h1 : p.1 < 30) (h2 : p.2 < 30) :
    ∃ ρ₃, XS prog w h₁ s₀ own₀ E A (r732 m H (p.1 : Nat) (p.2 : Nat)) .next ρ₃ (execs (fB (bAt b7 3)) E) ∧ ∀ z v, envL (e73 (stepM m p) H) z = some v → ρ₃ z = some v := by
  have i1 := idx_md (m := m) (a := p.1) (by omega) (by omega)
  have i2 := idx_md (m := m) (a := p.2) (by omega) (by omega)
  rw [b73_eq]
  have ht : tst (ev [] Φ0 20 E.scope.names (shρ (r732 m H (p.1 : Nat) (p.2 : Nat)))) (.Compare (cL t73) [.NotEq] [cR t73] (cP t73)) = some (getI m p.1 != getI m p.2) := by
    rw [hE]
    exact tst_cmp ((tl73 _ _ _ _).trans i1) ((tr73 _ _ _ _).trans i2) rfl bm73
  by_cases hq : getI m p.1 = getI m p.2
  · refine ⟨r732 m H (p.1 : Nat) (p.2 : Nat), XS.seq (XS.ifT X rm ht ?_) XS.nil, ?_⟩
    · rw [if_neg (by simp [hq])]; exact XS.nil
    · unfold stepM; rw [if_pos hq]
      exact envL_got (by kernel_rfl)
  · refine ⟨upd (r734 m H (p.1 : Nat) (p.2 : Nat) (getI m p.2) (getI m p.1)) nMarks (.sh (MD (stepM m p))), XS.seq (XS.ifT X rm ht ?_) XS.nil, ?_⟩
    · rw [if_pos (by simpa using hq)]
      refine XS.seq (assign_plain X (n := 20) rm (by rw [hE]; exact ko73 _ _ _ _) (by rw [hE]; exact (vo73 _ _ _ _).trans i2)) ?_
      refine XS.seq (assign_plain X (n := 20) rm (by rw [hE]; exact kn73 _ _ _ _ _) (by rw [hE]; exact (vn73 _ _ _ _ _).trans i1)) ?_
      refine XS.seq (assign_plain X (n := 20) rm (by rw [hE]; exact kk73 _ _ _ _ _ _) ?_) XS.nil
      rw [hE]
      have hc := ev_compF (fns := []) (Φ := Φ0) (n := 19) (ns := ns7) (px := lPx v73) (pos := lP v73) (ifs := []) (elt := lE v73) (fun _ => true) (fun d => match d with | .int z => .int (if z == getI m p.2 then getI m p.1 else z) | d => d) (ck73 m H (p.1 : Nat) (p.2 : Nat) (getI m p.2) (getI m p.1)) (ci73 m H (p.1 : Nat) (p.2 : Nat) (getI m p.2) (getI m p.1)) (ds := m.map .int)
        (by simp [MD, iterD, hm]) (by simp [hm]) (fun it hit => rfl) (fun it hit _ => by
          obtain ⟨z, _, rfl⟩ := List.mem_map.mp hit
          rw [ce73]
          by_cases hz : (z == getI m p.2) = true
          · rw [hz]; show some (D.int (getI m p.1)) = some (D.int (if (z == getI m p.2) = true then getI m p.1 else z)); rw [if_pos hz]
          · have hz' : (z == getI m p.2) = false := by simpa using hz
            rw [hz']; show some (D.int z) = some (D.int (if (z == getI m p.2) = true then getI m p.1 else z)); rw [if_neg hz])
      refine hc.trans ?_
      unfold stepM MD
      rw [if_neg hq, List.filter_eq_self.mpr (fun _ _ => rfl), List.map_map, List.map_map]
      rfl
    · exact envL_got (by kernel_rfl)

theorem st_loop2 (X : Cx prog w h₁ k [] Φ0) (rm : Rm A k) (hE : E.scope.names = ns7) (H : D) {ps : List (Nat × Nat)} (hps : ∀ p ∈ ps, p.1 < 30 ∧ p.2 < 30) (hlen : ps.length ≤ 10000) {pos : Pos} :
    XS prog w h₁ s₀ own₀ E A (envL (e72 (ps.map pairD) H)) .next (envL (e73 (ps.foldl stepM m00) H)) (exec (.For (fT (bAt b7 3)) (fI (bAt b7 3)) (fB (bAt b7 3)) [] pos) E) := by
  have hm0 : m00.length = 30 := rfl
  have := for_inv (s₀ := s₀) (own₀ := own₀) X (n := 20) rm (pos := pos) (t := fT (bAt b7 3)) (body := fB (bAt b7 3)) (ρ := freeze (envL (e72 (ps.map pairD) H))) (fun j => envL (e73 ((ps.take j).foldl stepM m00) H)) (by rw [hE]; exact st_i3 _ _) (ds := ps.map pairD) (by simp [iterD, hlen]) (envL_got (fr72 _ _)) fun j hj => ?_
  · have e : ps.take (ps.map pairD).length = ps := by simp
    simp only [e] at this
    exact XS.frozen this
  · have hj' : j < ps.length := by simpa using hj
    obtain ⟨q1, q2⟩ := hps _ (List.getElem_mem hj')
    obtain ⟨ρ₃, x3, h3⟩ := st_turn (s₀ := s₀) (own₀ := own₀) X rm hE (m := (ps.take j).foldl stepM m00) (by rw [foldM_len, hm0]) H q1 q2
    refine ⟨_, ρ₃, ?_, x3, ?_⟩
    · rw [hE, List.getElem_map]; exact a73 _ _ _ _
    · have e : ps.take (j + 1) = ps.take j ++ [ps[j]] := by rw [List.take_succ_eq_append_getElem hj']
      rw [e, List.foldl_append]
      exact h3
end
end Mine
namespace Mine

noncomputable def bo1 : Expr → Expr | .BoolOp _ (a :: _) _ => a | _ => nox
noncomputable def bo2 : Expr → Expr | .BoolOp _ (_ :: b :: _) _ => b | _ => nox
noncomputable def boP : Expr → Pos | .BoolOp _ _ p => p | _ => ⟨0, 0, 0, 0⟩
noncomputable def hd0 : List Expr → Expr | e :: _ => e | _ => nox
noncomputable def tu1 : Expr → Expr | .Tuple (a :: _) _ _ => a | _ => nox
noncomputable def tu2 : Expr → Expr | .Tuple (_ :: b :: _) _ _ => b | _ => nox

noncomputable def e74 (m τ : List Int) (H : D) : List (Str × V) := [(nHooks, .sh H), (nMarks, .sh (MD m)), (nTop, .sh (MD τ))]
noncomputable def e75 (τ : List Int) (R : List D) : List (Str × V) := [(nTop, .sh (MD τ)), (nRings, .sh (.lst R))]
noncomputable def s74 : Stmt := bAt b7 4
noncomputable def s75 : Stmt := bAt b7 5
noncomputable def s76 : Stmt := bAt b7 6
noncomputable def v75 : Expr := aV s75
noncomputable def f75 : Expr := hd0 (lF v75)
noncomputable def c751 : Expr := bo1 f75
noncomputable def c752 : Expr := bo2 f75
theorem s74_eq : s74 = .Assign [.Name nTop (aX s74)] (aV s74) (aP s74) := by kernel_rfl
theorem s75_eq : s75 = .Assign [.Name nRings (aX s75)] (.ListComp (lE v75) [⟨.Name nK (lPx v75), lI v75, [.BoolOp .And [.Compare (cL c751) [.Eq] [cR c751] (cP c751), .Compare (cL c752) [.NotIn] [cR c752] (cP c752)] (boP f75)], 0⟩] (lS v75) (lP v75)) (aP s75) := by kernel_rfl
theorem k74 (m : List Int) (H : D) : okVar ns7 (envL (e73 m H)) nTop = true := by kernel_rfl
theorem w74 (m : List Int) (u : Nat → D) : ev [] Φ0 20 ns7 (shρ (envL (e73 m (.lst (sym 4 u))))) (aV s74) = sliceD (MD m) (some 24) Option.none := by kernel_rfl
theorem x74 (m τ : List Int) (H : D) : ((e74 m τ H).map (·.1)).map (upd (envL (e73 m H)) nTop (.sh (MD τ))) = (e74 m τ H).map fun p => some p.2 := by kernel_rfl
theorem k75 (m τ : List Int) (H : D) : okVar ns7 (envL (e74 m τ H)) nRings = true := by kernel_rfl
theorem o75 (m τ : List Int) (H : D) : compOk ns7 (shρ (envL (e74 m τ H))) (lS v75) nK = true := by kernel_rfl
theorem i75 (μ : Nat → Int) (τ : List Int) (H : D) : ev [] Φ0 19 ns7 (shρ (envL (e74 ((List.range 30).map μ) τ H))) (lI v75) = some (.rng 0 30 1) := by kernel_rfl
noncomputable abbrev g75 (m τ : List Int) (H : D) (k : Int) : Expr → Option D := ev [] Φ0 19 (relNames ns7 (lS v75)) (compρ (shρ (envL (e74 m τ H))) (lS v75) nK (.int k))
theorem e75e (m τ : List Int) (H : D) (k : Int) : g75 m τ H k (lE v75) = some (.int k) := by kernel_rfl
theorem e75a (m τ : List Int) (H : D) (k : Int) : g75 m τ H k (cR c751) = some (.int k) := by kernel_rfl
theorem e75b (m τ : List Int) (H : D) (k : Int) : g75 m τ H k (cL c751) = (match idxD (MD m) (.int k) with | some (.int v) => idxOfD (m.map .int) v | _ => Option.none) := by kernel_rfl
theorem e75c (m τ : List Int) (H : D) (k : Int) : g75 m τ H k (cL c752) = idxD (MD m) (.int k) := by kernel_rfl
theorem e75d (m τ : List Int) (H : D) (k : Int) : g75 m τ H k (cR c752) = some (MD τ) := by kernel_rfl
theorem m75a : behindInMarks .Eq (cR c751) = false := by kernel_rfl
theorem m75b : behindInMarks .NotIn (cR c752) = false := by kernel_rfl
theorem x75 (m τ : List Int) (H : D) (R : List D) : ((e75 τ R).map (·.1)).map (upd (envL (e74 m τ H)) nRings (.sh (.lst R))) = (e75 τ R).map fun p => some p.2 := by kernel_rfl

noncomputable def t76 : Expr := rE s76
noncomputable def o76 : Expr := tu1 t76
noncomputable def n76 : Expr := lE o76
noncomputable def f76 : Expr := hd0 (lF n76)
noncomputable def c761 : Expr := bo1 f76
noncomputable def c762 : Expr := bo2 f76
theorem s76_eq : s76 = .Return (some (.Tuple [.ListComp (.ListComp (lE n76) [⟨.Name nJ (lPx n76), lI n76, [.BoolOp .And [.Compare (cL c761) [.NotEq] [cR c761] (cP c761), .Compare (cL c762) [.Eq] [cR c762] (cP c762)] (boP f76)], 0⟩] (lS n76) (lP n76))
    [⟨.Name nK (lPx o76), lI o76, [], 0⟩] (lS o76) (lP o76), tu2 t76] (tuK t76) (tuP t76))) (rP s76) := by kernel_rfl
noncomputable abbrev q76 (τ : List Int) (R : List D) : Str → Option D := shρ (freeze (envL (e75 τ R)))
theorem l76 (τ : List Int) (R : List D) : ev [] Φ0 19 ns7 (q76 τ R) (tu2 t76) = callB "len" [.lst R] := by kernel_rfl
theorem l76s : notStar (tu2 t76) = true := by kernel_rfl
theorem o76o (τ : List Int) (R : List D) : compOk ns7 (q76 τ R) (lS o76) nK = true := by kernel_rfl
theorem o76i (τ : List Int) (R : List D) : ev [] Φ0 18 ns7 (q76 τ R) (lI o76) = some (.rng 0 6 1) := by kernel_rfl
noncomputable abbrev ns76 : List (Str × NameKind) := relNames ns7 (lS o76)
noncomputable abbrev p76 (τ : List Int) (R : List D) (k : Int) : Str → Option D := compρ (q76 τ R) (lS o76) nK (.int k)
theorem n76o (τ : List Int) (R : List D) (k : Int) : compOk ns76 (p76 τ R k) (lS n76) nJ = true := by kernel_rfl
theorem n76i (τ : List Int) (R : List D) (k : Int) : ev [] Φ0 17 ns76 (p76 τ R k) (lI n76) = some (.rng 0 6 1) := by kernel_rfl
noncomputable abbrev g76 (τ : List Int) (R : List D) (k j : Int) : Expr → Option D := ev [] Φ0 17 (relNames ns76 (lS n76)) (compρ (p76 τ R k) (lS n76) nJ (.int j))
theorem e76e (τ : List Int) (R : List D) (k j : Int) : g76 τ R k j (lE n76) = some (.int j) := by kernel_rfl
theorem e76a (τ : List Int) (R : List D) (k j : Int) : g76 τ R k j (cL c761) = some (.int j) := by kernel_rfl
theorem e76b (τ : List Int) (R : List D) (k j : Int) : g76 τ R k j (cR c761) = some (.int k) := by kernel_rfl
theorem e76c (τ : List Int) (R : List D) (k j : Int) : g76 τ R k j (cL c762) = idxD (MD τ) (.int j) := by kernel_rfl
theorem e76d (τ : List Int) (R : List D) (k j : Int) : g76 τ R k j (cR c762) = idxD (MD τ) (.int k) := by kernel_rfl
theorem m76a : behindInMarks .NotEq (cR c761) = false := by kernel_rfl
theorem m76b : behindInMarks .Eq (cR c762) = false := by kernel_rfl
end Mine
namespace Mine

theorem ints_map : ∀ m : List Int, ints? (m.map .int) = some m
  | [] => rfl
  | a :: m => by show (match ints? (m.map .int) with | some is => some (a :: is) | Option.none => Option.none) = _; rw [ints_map m]
theorem pys_map : ∀ m : List Int, D.pys (m.map .int) = some (m.map PyData.int)
  | [] => by rw [List.map_nil, D.pys]; rfl
  | a :: m => by rw [List.map_cons, D.pys, D.py_int, pys_map m]; rfl
theorem eqv_int (a b : Int) : PyData.eqv (.int a) (.int b) = (a == b) := by first | rfl | simp [PyData.eqv]
theorem notin_md (x : Int) (τ : List Int) : cmpD .NotIn (.int x) (MD τ) = some (.bool (!(τ.any (· == x)))) := by
  unfold MD
  show cmpW (.notInL x (τ.map .int)) = _
  simp only [cmpW, pys_map]
  congr 3
  rw [List.any_map]
  congr 1
theorem slice_md {m : List Int} (h : m.length = 30) : sliceD (MD m) (some 24) Option.none = some (MD (m.drop 24)) := by
  unfold sliceD MD
  simp only [List.length_map, h]
  rw [if_pos (by omega)]
  have e : clipAt 30 24 = 24 := by decide
  simp only [Option.elim, e]
  rw [← List.map_drop, List.take_of_length_le (by simp [h])]
theorem range_map {m : List Int} {n : Nat} (h : m.length = n) : (List.range n).map (getI m) = m := by
  subst h
  refine List.ext_getElem (by simp) fun i h1 h2 => ?_
  simp [getI, h2]

theorem iter30 : iterD (.rng 0 30 1) = some (numD 30) := by kernel_rfl
noncomputable def rTest (m τ : List Int) (k : Nat) : Bool := ((m.idxOf (getI m k) : Nat) : Int) == (k : Int) && !(τ.any (· == getI m k))
noncomputable def jTest (τ : List Int) (k j : Nat) : Bool := ((j : Int) != (k : Int)) && (getI τ j == getI τ k)
noncomputable def onN (p : Nat → Bool) : D → Bool | .int i => p i.toNat | _ => false
noncomputable def ringsR (m τ : List Int) : List D := ((List.range 30).filter (rTest m τ)).map fun k => .int (k : Nat)
noncomputable def mateR (τ : List Int) (k : Nat) : D := .lst (((List.range 6).filter (jTest τ k)).map fun j => .int (j : Nat))
noncomputable def matesR (τ : List Int) : D := .lst ((List.range 6).map (mateR τ))
theorem filter_num (n : Nat) (p : Nat → Bool) : ((numD n).filter (onN p)).map id = ((List.range n).filter p).map fun k => D.int (k : Nat) := by
  unfold numD
  rw [List.map_id, List.filter_map]
  congr 1

section
variable {prog : Program} {w : World} {h₁ : Heap} {k : Nat} {A : Around} {s₀ : Shared} {own₀ : List Addr} {E : Env}

theorem rings_ev {m τ : List Int} (hm : m.length = 30) (H : D) : ev [] Φ0 20 ns7 (shρ (envL (e74 m τ H))) (.ListComp (lE v75) [⟨.Name nK (lPx v75), lI v75, [.BoolOp .And [.Compare (cL c751) [.Eq] [cR c751] (cP c751), .Compare (cL c752) [.NotIn] [cR c752] (cP c752)] (boP f75)], 0⟩] (lS v75) (lP v75)) = some (.lst (ringsR m τ)) := by
  have hi : ev [] Φ0 19 ns7 (shρ (envL (e74 m τ H))) (lI v75) = some (.rng 0 30 1) := by
    have := i75 (getI m) τ H
    rw [range_map hm] at this
    exact this
  have := ev_compF (fns := []) (Φ := Φ0) (n := 19) (px := lPx v75) (pos := lP v75) (elt := lE v75) (ifs := [.BoolOp .And [.Compare (cL c751) [.Eq] [cR c751] (cP c751), .Compare (cL c752) [.NotIn] [cR c752] (cP c752)] (boP f75)]) (onN (rTest m τ)) id (o75 m τ H) hi iter30 (by simp [numD]) (fun it hit => ?_) (fun it hit hp => ?_)
  · rw [filter_num] at this; exact this
  · obtain ⟨j, hj, rfl⟩ := List.mem_map.mp hit
    have hj' : j < 30 := List.mem_range.mp hj
    have ix := idx_md (m := m) (a := j) (by omega) (by omega)
    have hmem : getI m j ∈ m := by
      have : j < m.length := by omega
      simp [getI, this]
    refine ifs_and (tst1_cmp (a := .int ((m.idxOf (getI m j) : Nat) : Int)) ?_ (e75a m τ H j) rfl m75a) (tst1_cmp ((e75c m τ H j).trans ix) (e75d m τ H j) (notin_md _ _) m75b)
    refine (e75b m τ H j).trans ?_
    rw [ix]
    show idxOfD (m.map .int) (getI m j) = _
    unfold idxOfD
    rw [ints_map]
    simp only
    rw [if_pos ⟨by omega, hmem⟩]
  · obtain ⟨j, hj, rfl⟩ := List.mem_map.mp hit
    exact e75e m τ H j

theorem mate_ev {τ : List Int} (hτ : τ.length = 6) (R : List D) {k : Nat} (hk : k < 6) : ev [] Φ0 18 ns76 (p76 τ R k) (.ListComp (lE n76) [⟨.Name nJ (lPx n76), lI n76, [.BoolOp .And [.Compare (cL c761) [.NotEq] [cR c761] (cP c761), .Compare (cL c762) [.Eq] [cR c762] (cP c762)] (boP f76)], 0⟩] (lS n76) (lP n76)) = some (mateR τ k) := by
  have := ev_compF (fns := []) (Φ := Φ0) (n := 17) (px := lPx n76) (pos := lP n76) (elt := lE n76) (ifs := [.BoolOp .And [.Compare (cL c761) [.NotEq] [cR c761] (cP c761), .Compare (cL c762) [.Eq] [cR c762] (cP c762)] (boP f76)]) (onN (jTest τ k)) id (n76o τ R k) (n76i τ R k) iter6 (by simp [numD]) (fun it hit => ?_) (fun it hit hp => ?_)
  · rw [filter_num] at this; exact this
  · obtain ⟨j, hj, rfl⟩ := List.mem_map.mp hit
    have hj' : j < 6 := List.mem_range.mp hj
    have ix := idx_md (m := τ) (a := j) (by omega) (by omega)
    have iy := idx_md (m := τ) (a := k) (by omega) (by omega)
    exact ifs_and (tst1_cmp (e76a τ R k j) (e76b τ R k j) rfl m76a) (tst1_cmp ((e76c τ R k j).trans ix) ((e76d τ R k j).trans iy) rfl m76b)
  · obtain ⟨j, hj, rfl⟩ := List.mem_map.mp hit
    exact e76e τ R k j
theorem mates_ev {τ : List Int} (hτ : τ.length = 6) (R : List D) : ev [] Φ0 19 ns7 (q76 τ R) (.ListComp (.ListComp (lE n76) [⟨.Name nJ (lPx n76), lI n76, [.BoolOp .And [.Compare (cL c761) [.NotEq] [cR c761] (cP c761), .Compare (cL c762) [.Eq] [cR c762] (cP c762)] (boP f76)], 0⟩] (lS n76) (lP n76))
    [⟨.Name nK (lPx o76), lI o76, [], 0⟩] (lS o76) (lP o76)) = some (matesR τ) := by
  have := ev_compF (fns := []) (Φ := Φ0) (n := 18) (px := lPx o76) (pos := lP o76) (elt := .ListComp (lE n76) [⟨.Name nJ (lPx n76), lI n76, [.BoolOp .And [.Compare (cL c761) [.NotEq] [cR c761] (cP c761), .Compare (cL c762) [.Eq] [cR c762] (cP c762)] (boP f76)], 0⟩] (lS n76) (lP n76)) (ifs := []) (fun _ => true) (fun d => match d with | .int i => mateR τ i.toNat | d => d) (o76o τ R) (o76i τ R) iter6 (by simp [numD]) (fun it hit => rfl) (fun it hit _ => ?_)
  · refine this.trans ?_
    rw [List.filter_eq_self.mpr (fun _ _ => rfl)]
    unfold matesR numD
    rw [List.map_map]
    rfl
  · obtain ⟨j, hj, rfl⟩ := List.mem_map.mp hit
    exact mate_ev hτ R (List.mem_range.mp hj)

theorem ev_tup2 {fns : List Str} {Φ : Fn} {n : Nat} {ns : List (Str × NameKind)} {ρ : Str → Option D} {a b : Expr} {x y : D} {kk : Nat} {p : Pos} (ha : notStar a = true) (hb : notStar b = true) (h1 : ev fns Φ n ns ρ a = some x) (h2 : ev fns Φ n ns ρ b = some y) :
    ev fns Φ (n + 1) ns ρ (.Tuple [a, b] kk p) = some (.tup [x, y]) := by
  show evW fns Φ (ev fns Φ n) ns ρ (.tuple [a, b] kk p) = _
  simp only [evW, evL, ha, hb, if_true, h1, h2]
  simp

theorem ringsR_len (m τ : List Int) : (ringsR m τ).length ≤ 30 := by
  unfold ringsR
  rw [List.length_map]
  exact Nat.le_trans (List.length_filter_le _ _) (by simp)

/-- the strands -/
theorem st_xs (X : Cx prog w h₁ k [] Φ0) {base : List (Nat × Nat)} (hb3 : base.length = 3) (hb6 : ∀ p ∈ base, p.1 < 30 ∧ p.2 < 30) {hs : List Nat} (h4 : hs.length = 4) (hlt : ∀ i ∈ hs, i < 5) (hall : ∀ p ∈ allP base hs, p.1 < 30 ∧ p.2 < 30) (hal : (allP base hs).length ≤ 10000) :
    ∃ ρ', ∀ (own : List Addr) (A : Around) (s₀ : Shared) (E : Env), Rm A k → E.scope = (rc 7).scope →
      XS prog w h₁ s₀ own E A (bindρ psStrands [.lst (base.map pairD), hooksD hs] fun _ => Option.none) (.ret (.tup [matesR (((allP base hs).foldl stepM m00).drop 24), .int ((ringsR ((allP base hs).foldl stepM m00) (((allP base hs).foldl stepM m00).drop 24)).length : Nat)])) ρ' (execs (rc 7).body E) := by
  have hm : ((allP base hs).foldl stepM m00).length = 30 := by rw [foldM_len]; rfl
  generalize hM : (allP base hs).foldl stepM m00 = m at hm
  refine ⟨freeze (envL (e75 (m.drop 24) (ringsR m (m.drop 24)))), fun own A s₀ E rm hE => ?_⟩
  have hE' : E.scope.names = ns7 := by rw [hE]
  have hb3' : (base.map pairD).length = 3 := by simpa using hb3
  have es := eq_sym hb3'
  rw [b7_eq, hooksD_sym h4]
  refine XS.weak (envL_got (st_bind _ _)) ?_
  refine XS.step1 X rm hE' (l' := e71 (base.map pairD) (.lst (sym 4 (uH hs)))) (by rw [es]; exact st_s0 _ _) ?_
  refine XS.seq (st_loop1 X rm hE' hb3' (hs_lt hlt)) ?_
  rw [JL_all]
  refine XS.step1 X rm hE' (st_s2 _ _) ?_
  refine XS.seq (st_loop2 X rm hE' _ hall hal) ?_
  rw [hM]
  have hτ : (m.drop 24).length = 6 := by rw [List.length_drop, hm]
  show XS _ _ _ _ _ _ _ _ _ _ (execs [s74, s75, s76] E)
  rw [s74_eq]
  refine XS.seq (assign_plain X (n := 20) rm (by rw [hE']; exact k74 _ _) (by rw [hE']; exact (w74 _ _).trans (slice_md hm))) ?_
  refine XS.weak (envL_got (x74 m (m.drop 24) _)) ?_
  rw [s75_eq]
  refine XS.seq (assign_plain X (n := 20) rm (by rw [hE']; exact k75 _ _ _) (by rw [hE']; exact rings_ev hm _)) ?_
  refine XS.weak (envL_got (x75 m (m.drop 24) _ (ringsR m (m.drop 24)))) ?_
  rw [s76_eq]
  refine XS.stop (return_sound X (n := 20) rm ?_)
  rw [hE']
  refine ev_tup2 rfl l76s (mates_ev hτ _) ((l76 _ _).trans ?_)
  show (if (ringsR m (m.drop 24)).length ≤ 10000 then some (D.int (ringsR m (m.drop 24)).length) else Option.none) = _
  rw [if_pos (Nat.le_trans (ringsR_len _ _) (by omega))]
end
end Mine
namespace Mine

noncomputable def arcsL : List (List (Nat × Nat)) := [[(0, 1), (2, 3), (4, 5)], [(0, 1), (3, 4), (2, 5)], [(1, 2), (0, 3), (4, 5)], [(1, 2), (3, 4), (0, 5)], [(2, 3), (1, 4), (0, 5)]]
noncomputable def arcsP (r : Nat) : List (Nat × Nat) := arcsL[r]?.getD []

noncomputable def nth (l : List Nat) : Nat → Nat := List.rec (motive := fun _ => Nat → Nat) (fun _ => 0) (fun a _ ih n => Nat.rec a (fun m _ => ih m) n) l
theorem nth_eq : ∀ (l : List Nat) (n : Nat), nth l n = l[n]?.getD 0
  | [], _ => by simp [nth]
  | a :: _, 0 => rfl
  | _ :: l, n + 1 => by
    show nth l n = _
    rw [nth_eq l n]; simp
noncomputable def substN (o n a : Nat) : Nat := if a = o then n else a
noncomputable def stepN (m : List Nat) (p : Nat × Nat) : List Nat := if nth m p.1 = nth m p.2 then m else m.map (substN (nth m p.2) (nth m p.1))
noncomputable def hookNL : List (List (Nat × Nat)) := [[(0, 1), (2, 0), (0, 1), (1, 0), (0, 1)], [(1, 1), (3, 0), (0, 0), (1, 1), (0, 0)], [(0, 0), (2, 1), (0, 0), (3, 0), (2, 1)], [(1, 0), (3, 1), (4, 0), (3, 1), (2, 0)], [(0, 0), (3, 0), (4, 1), (3, 0), (0, 0)]]
noncomputable def hookN (r i : Nat) : Nat × Nat := ((hookNL[r]?).getD [])[i]?.getD (9, 9)
theorem hookN_eq : ((List.range 5).all fun r => (List.range 5).all fun i => (hookT r i).1 == (hookN r i).1 && (hookT r i).2 == ((hookN r i).2 : Int)) = true := by decide +kernel
noncomputable def mN0 : List Nat := List.range 30
end Mine
namespace Mine

/-- the marks behind one join -/
theorem nth_map {m : List Nat} {f : Nat → Nat} {j : Nat} (hj : j < m.length) : nth (m.map f) j = f (nth m j) := by
  rw [nth_eq, nth_eq, List.getElem?_map, List.getElem?_eq_getElem hj]
  rfl
theorem nth_step {m : List Nat} {p : Nat × Nat} {j : Nat} (hj : j < m.length) : nth (stepN m p) j = if nth m j = nth m p.2 then nth m p.1 else nth m j := by
  unfold stepN
  by_cases h : nth m p.1 = nth m p.2
  · rw [if_pos h]
    by_cases q : nth m j = nth m p.2
    · rw [if_pos q, h, q]
    · rw [if_neg q]
  · rw [if_neg h, nth_map hj]
    rfl
theorem step_len (m : List Nat) (p : Nat × Nat) : (stepN m p).length = m.length := by
  unfold stepN
  split
  · rfl
  · exact List.length_map ..
theorem steps_len : ∀ (ps : List (Nat × Nat)) (m : List Nat), (ps.foldl stepN m).length = m.length
  | [], _ => rfl
  | p :: ps, m => by rw [List.foldl_cons, steps_len ps, step_len]

/-! small sums -/
theorem lt6 {B k : Nat} (h : k < 6) : B + k < B + 6 := Nat.add_lt_add_left h B
theorem lt12 {B k : Nat} (h : k < 6) : B + 6 + k < B + 12 := Nat.add_lt_add_left (k := B + 6) h
theorem ne6 {B k q : Nat} (h : k < 6) : B + k ≠ B + 6 + q := Nat.ne_of_lt (Nat.lt_of_lt_of_le (lt6 h) (Nat.le_add_right _ _))
theorem neK {B k q : Nat} (h : k ≠ q) : B + k ≠ B + q := fun e => h (Nat.add_left_cancel e)
theorem up12 {B j n : Nat} (hB : B + 12 ≤ n) (h : j < B + 12) : j < n := Nat.lt_of_lt_of_le h hB
theorem up6 {B j n : Nat} (hB : B + 12 ≤ n) (h : j < B + 6) : j < n := up12 hB (Nat.lt_of_lt_of_le h (Nat.add_le_add_left (by decide) B))

/-- a mark that stands at one place alone -/
theorem fresh_step {m : List Nat} {a b : Nat} (hb : b < m.length) (hf : ∀ j, j < m.length → (nth m j = b ↔ j = b)) {j : Nat} (hj : j < m.length) : nth (stepN m (a, b)) j = if j = b then nth m a else nth m j := by
  rw [nth_step hj]
  have hbb : nth m b = b := (hf b hb).mpr rfl
  show (if nth m j = nth m b then nth m a else nth m j) = _
  rw [hbb]
  by_cases q : j = b
  · rw [if_pos q, if_pos ((hf j hj).mpr q)]
  · rw [if_neg q, if_neg fun e => q ((hf j hj).mp e)]

theorem fresh_fold (B : Nat) : ∀ (ks : List Nat) (m : List Nat), ks.Nodup → (∀ k ∈ ks, k < 6) → B + 12 ≤ m.length → (∀ k ∈ ks, ∀ j, j < m.length → (nth m j = B + 6 + k ↔ j = B + 6 + k)) →
    (∀ k ∈ ks, nth ((ks.map fun k => (B + k, B + 6 + k)).foldl stepN m) (B + 6 + k) = nth m (B + k)) ∧ ∀ j, j < m.length → (∀ k ∈ ks, j ≠ B + 6 + k) → nth ((ks.map fun k => (B + k, B + 6 + k)).foldl stepN m) j = nth m j
  | [], m, _, _, _, _ => ⟨fun k hk => (nomatch hk), fun _ _ _ => rfl⟩
  | k :: ks, m, hn, hk, hl, hf => by
    obtain ⟨hkn, hn'⟩ := List.nodup_cons.mp hn
    have hk6 := hk k List.mem_cons_self
    have hb : B + 6 + k < m.length := up12 hl (lt12 hk6)
    have f0 : ∀ j, j < m.length → nth (stepN m (B + k, B + 6 + k)) j = if j = B + 6 + k then nth m (B + k) else nth m j := fun j hj => fresh_step hb (hf k List.mem_cons_self) hj
    have hqk : ∀ q ∈ ks, q ≠ k := fun q hq e => hkn (e ▸ hq)
    obtain ⟨i1, i2⟩ := fresh_fold B ks (stepN m (B + k, B + 6 + k)) hn' (fun q hq => hk q (List.mem_cons_of_mem _ hq)) (by rw [step_len]; exact hl) (fun q hq j hj => by
      rw [step_len] at hj
      rw [f0 j hj]
      by_cases h2 : j = B + 6 + k
      · rw [if_pos h2]
        exact iff_of_false (fun e => ne6 hk6 ((hf q (List.mem_cons_of_mem _ hq) (B + k) (up6 hl (lt6 hk6))).mp e)) fun e => neK (hqk q hq) (e.symm.trans h2)
      · rw [if_neg h2]
        exact hf q (List.mem_cons_of_mem _ hq) j hj)
    rw [step_len] at i2
    rw [List.map_cons, List.foldl_cons]
    constructor
    · intro q hq
      rcases List.mem_cons.mp hq with rfl | hq
      · rw [i2 _ hb fun q' hq' => neK (hqk q' hq').symm, f0 _ hb, if_pos rfl]
      · have q6 := hk q (List.mem_cons_of_mem _ hq)
        rw [i1 q hq, f0 _ (up6 hl (lt6 q6)), if_neg (ne6 q6)]
    · intro j hj hne
      rw [i2 j hj fun q hq => hne q (List.mem_cons_of_mem _ hq), f0 j hj, if_neg (hne k List.mem_cons_self)]

noncomputable def ksOf (i : Nat) : List Nat := (List.range 6).filter fun k => k != i && k != i + 1
theorem ks_nodup (i : Nat) : (ksOf i).Nodup := List.Pairwise.filter _ List.nodup_range
theorem ks_mem {i k : Nat} : k ∈ ksOf i ↔ k < 6 ∧ k ≠ i ∧ k ≠ i + 1 := by
  unfold ksOf
  rw [List.mem_filter, List.mem_range, Bool.and_eq_true, bne_iff_ne, bne_iff_ne]
noncomputable def stepQ (B i : Nat) : List (Nat × Nat) := (B + i, B + (i + 1)) :: (B + 6 + i, B + 6 + (i + 1)) :: (ksOf i).map fun k => (B + k, B + 6 + k)
theorem stepP_Q (h i : Nat) : stepP h i = stepQ (6 * h) i := rfl

/-- the marks below B are old, those from B on untouched -/
structure Fr (m : List Nat) (B : Nat) : Prop where
  len : m.length = 30
  old : ∀ j, j < B → nth m j < B
  new : ∀ j, B ≤ j → j < 30 → nth m j = j
theorem Fr.iff {m : List Nat} {B b j : Nat} (F : Fr m B) (hb : B ≤ b) (hj : j < 30) : nth m j = b ↔ j = b := by
  by_cases h : j < B
  · exact iff_of_false (Nat.ne_of_lt (Nat.lt_of_lt_of_le (F.old j h) hb)) (Nat.ne_of_lt (Nat.lt_of_lt_of_le h hb))
  · rw [F.new j (Nat.le_of_not_lt h) hj]

noncomputable def sub2 (x y z : Nat) : Nat := if z = y then x else z
theorem sub2_lt {x y z b : Nat} (hx : x < b) (hz : z < b) : sub2 x y z < b := by unfold sub2; split <;> assumption
theorem sub2_ne {x y z : Nat} (h : z ≠ y) : sub2 x y z = z := if_neg h

/-- one hook -/
theorem hook_marks {m : List Nat} {B i : Nat} (hB : B + 12 ≤ 30) (hi : i < 5) (F : Fr m (B + 6)) :
    ((stepQ B i).foldl stepN m).length = 30 ∧ (∀ j, j < B + 6 → nth ((stepQ B i).foldl stepN m) j = sub2 (nth m (B + i)) (nth m (B + (i + 1))) (nth m j)) ∧
    nth ((stepQ B i).foldl stepN m) (B + 6 + i) = B + 6 + i ∧ nth ((stepQ B i).foldl stepN m) (B + 6 + (i + 1)) = B + 6 + i ∧
    (∀ k, k < 6 → k ≠ i → k ≠ i + 1 → nth ((stepQ B i).foldl stepN m) (B + 6 + k) = sub2 (nth m (B + i)) (nth m (B + (i + 1))) (nth m (B + k))) ∧
    ∀ j, B + 12 ≤ j → j < 30 → nth ((stepQ B i).foldl stepN m) j = j := by
  have i6 : i < 6 := Nat.lt_succ_of_lt hi
  have i7 : i + 1 < 6 := Nat.succ_lt_succ hi
  have hx := F.old (B + i) (lt6 i6)
  have hy := F.old (B + (i + 1)) (lt6 i7)
  have g1 : ∀ j, j < 30 → nth (stepN m (B + i, B + (i + 1))) j = sub2 (nth m (B + i)) (nth m (B + (i + 1))) (nth m j) := fun j hj => nth_step (by rw [F.len]; exact hj)
  generalize hm1 : stepN m (B + i, B + (i + 1)) = m1 at g1
  have l1 : m1.length = 30 := by rw [← hm1, step_len, F.len]
  have F1 : Fr m1 (B + 6) := ⟨l1, fun j hj => by rw [g1 j (up6 hB hj)]; exact sub2_lt hx (F.old j hj),
    fun j h1 h2 => by rw [g1 j h2, F.new j h1 h2]; exact sub2_ne (Nat.ne_of_gt (Nat.lt_of_lt_of_le hy h1))⟩
  have g2 : ∀ j, j < 30 → nth (stepN m1 (B + 6 + i, B + 6 + (i + 1))) j = if j = B + 6 + (i + 1) then B + 6 + i else nth m1 j := fun j hj => by
    rw [fresh_step (by rw [l1]; exact up12 hB (lt12 i7)) (fun j hj => F1.iff (Nat.le_add_right _ _) (by rw [l1] at hj; exact hj)) (by rw [l1]; exact hj), F1.new (B + 6 + i) (Nat.le_add_right _ _) (up12 hB (lt12 i6))]
  generalize hm2 : stepN m1 (B + 6 + i, B + 6 + (i + 1)) = m2 at g2
  have l2 : m2.length = 30 := by rw [← hm2, step_len, l1]
  have e : (stepQ B i).foldl stepN m = ((ksOf i).map fun k => (B + k, B + 6 + k)).foldl stepN m2 := by
    rw [← hm2, ← hm1]; rfl
  obtain ⟨g3, g4⟩ := fresh_fold B (ksOf i) m2 (ks_nodup i) (fun k hk => (ks_mem.mp hk).1) (by rw [l2]; exact hB) (fun k hk j hj => by
    obtain ⟨k6, k1, k2⟩ := ks_mem.mp hk
    rw [l2] at hj
    rw [g2 j hj]
    split
    · rename_i hq
      exact iff_of_false (neK k1.symm) fun e => neK k2.symm (hq.symm.trans e)
    · exact F1.iff (Nat.le_add_right _ _) hj)
  rw [l2] at g4
  have low : ∀ j, j < B + 6 → nth m2 j = sub2 (nth m (B + i)) (nth m (B + (i + 1))) (nth m j) := fun j hj => by
    rw [g2 j (up6 hB hj), if_neg (Nat.ne_of_lt (Nat.lt_of_lt_of_le hj (Nat.le_add_right _ _))), g1 j (up6 hB hj)]
  rw [e]
  refine ⟨by rw [steps_len, l2], fun j hj => ?_, ?_, ?_, fun k k6 k1 k2 => ?_, fun j h1 h2 => ?_⟩
  · rw [g4 j (up6 hB hj) fun k _ => Nat.ne_of_lt (Nat.lt_of_lt_of_le hj (Nat.le_add_right _ _)), low j hj]
  · rw [g4 _ (up12 hB (lt12 i6)) fun k hk => neK (ks_mem.mp hk).2.1.symm, g2 _ (up12 hB (lt12 i6)), if_neg (neK (Nat.ne_of_lt (Nat.lt_succ_self i))), F1.new _ (Nat.le_add_right _ _) (up12 hB (lt12 i6))]
  · rw [g4 _ (up12 hB (lt12 i7)) fun k hk => neK (ks_mem.mp hk).2.2.symm, g2 _ (up12 hB (lt12 i7)), if_pos rfl]
  · rw [g3 k (ks_mem.mpr ⟨k6, k1, k2⟩), low _ (lt6 k6)]
  · have hne : ∀ k, k < 6 → j ≠ B + 6 + k := fun k hk => Nat.ne_of_gt (Nat.lt_of_lt_of_le (lt12 hk) h1)
    rw [g4 j h2 fun k hk => hne k (ks_mem.mp hk).1, g2 j h2, if_neg (hne _ i7), F1.new j (Nat.le_trans (Nat.add_le_add_left (by decide) B) h1) h2]
end Mine
namespace Mine

/-- the three strands of a row, by number; what a hook makes of them: 3 is the new one -/
noncomputable def labL : List (List Nat) := [[0, 0, 1, 1, 2, 2], [0, 0, 1, 2, 2, 1], [0, 1, 1, 0, 2, 2], [0, 1, 1, 2, 2, 0], [0, 1, 2, 2, 1, 0]]
noncomputable def lab (r k : Nat) : Nat := ((labL[r]?).getD [])[k]?.getD 9
noncomputable def code (r i k : Nat) : Nat := if k = i ∨ k = i + 1 then 3 else if lab r k = lab r (i + 1) then lab r i else lab r k
noncomputable def newv (r i c : Nat) : Nat := code r i ((((List.range 6).find? fun k => lab (hookN r i).1 k == c)).getD 9)
noncomputable def dead (r i : Nat) : Nat := lab r (i + 1)
noncomputable def labOk (r i : Nat) : Bool :=
  decide ((hookN r i).1 < 5) && decide ((hookN r i).2 = if lab r i = lab r (i + 1) then 1 else 0) &&
  ((List.range 6).all fun k => decide (lab r k < 3) && decide (code r i k = newv r i (lab (hookN r i).1 k))) &&
  ((List.range 3).all fun c => decide (newv r i c < 4) && decide (newv r i c ≠ dead r i) && ((List.range 3).all fun c' => newv r i c != newv r i c' || c == c')) &&
  (List.range 3).all fun c => (lab r i == lab r (i + 1) && c == lab r i) || (List.range 3).any fun c' => newv r i c' == if c = lab r (i + 1) then lab r i else c
theorem labs_ok : ((List.range 5).all fun r => (List.range 5).all fun i => labOk r i) = true := by decide +kernel
structure LabOk (r i : Nat) : Prop where
  lt : (hookN r i).1 < 5
  ring : (hookN r i).2 = if lab r i = lab r (i + 1) then 1 else 0
  lab3 : ∀ k, k < 6 → lab r k < 3
  code : ∀ k, k < 6 → code r i k = newv r i (lab (hookN r i).1 k)
  new4 : ∀ c, c < 3 → newv r i c < 4
  ndead : ∀ c, c < 3 → newv r i c ≠ dead r i
  inj : ∀ c c', c < 3 → c' < 3 → newv r i c = newv r i c' → c = c'
  cover : ∀ c, c < 3 → (lab r i = lab r (i + 1) ∧ c = lab r i) ∨ ∃ c', c' < 3 ∧ newv r i c' = if c = lab r (i + 1) then lab r i else c
theorem lab_ok {r i : Nat} (hr : r < 5) (hi : i < 5) : LabOk r i := by
  have h := List.all_eq_true.mp (List.all_eq_true.mp labs_ok r (List.mem_range.mpr hr)) i (List.mem_range.mpr hi)
  unfold labOk at h
  simp only [Bool.and_eq_true, decide_eq_true_eq, List.all_eq_true, List.mem_range, Bool.or_eq_true, bne_iff_ne, beq_iff_eq, List.any_eq_true] at h
  obtain ⟨⟨⟨⟨h1, h2⟩, h3⟩, h4⟩, h5⟩ := h
  exact ⟨h1, h2, fun k hk => (h3 k hk).1, fun k hk => (h3 k hk).2, fun c hc => (h4 c hc).1.1, fun c hc => (h4 c hc).1.2, fun c c' hc hc' e => ((h4 c hc).2 c' hc').elim (fun n => absurd e n) id, h5⟩

theorem lab_has : ((List.range 5).all fun r => (List.range 3).all fun c => (List.range 6).any fun k => lab r k == c) = true := by decide +kernel
theorem has_lab {r c : Nat} (hr : r < 5) (hc : c < 3) : ∃ k, k < 6 ∧ lab r k = c := by
  have h := List.all_eq_true.mp (List.all_eq_true.mp lab_has r (List.mem_range.mpr hr)) c (List.mem_range.mpr hc)
  obtain ⟨k, hk, e⟩ := List.any_eq_true.mp h
  exact ⟨k, List.mem_range.mp hk, by simpa using e⟩
/-- how the marks stand behind some hooks: v the marks of the row's strands, R those of the rings -/
structure St (B r n : Nat) (m : List Nat) (v : Nat → Nat) (R : List Nat) : Prop where
  fr : Fr m (B + 6)
  inj : ∀ c c', c < 3 → c' < 3 → v c = v c' → c = c'
  top : ∀ k, k < 6 → nth m (B + k) = v (lab r k)
  num : R.length = n
  nodup : R.Nodup
  apart : ∀ c, c < 3 → v c ∉ R
  all : ∀ j, j < B + 6 → (∃ c, c < 3 ∧ nth m j = v c) ∨ nth m j ∈ R
  has : ∀ z ∈ R, ∃ j, j < B + 6 ∧ nth m j = z
section
variable {B r n : Nat} {m : List Nat} {v : Nat → Nat} {R : List Nat}
theorem St.small (S : St B r n m v R) (hr : r < 5) {c : Nat} (hc : c < 3) : v c < B + 6 := by
  obtain ⟨k, hk, e⟩ := has_lab hr hc
  have := S.top k hk
  rw [e] at this
  rw [← this]
  exact S.fr.old _ (lt6 hk)
theorem St.smallR (S : St B r n m v R) {z : Nat} (hz : z ∈ R) : z < B + 6 := by
  obtain ⟨j, hj, e⟩ := S.has z hz
  rw [← e]
  exact S.fr.old _ hj
theorem le_split {B j : Nat} (hj : j < B + 6 + 6) (a : ¬ j < B + 6) : ∃ k, k < 6 ∧ j = B + 6 + k := ⟨j - (B + 6), by omega, by omega⟩
theorem lt3 {r i : Nat} {c : Nat} (hr : r < 5) (hi : i < 5) (hc : c < 3) : (if c = lab r (i + 1) then lab r i else c) < 3 := by
  split
  · exact (lab_ok hr hi).lab3 i (Nat.lt_succ_of_lt hi)
  · exact hc

/-- the mark of a strand by its number, 3 the new one -/
noncomputable def wv (v : Nat → Nat) (f d : Nat) : Nat := if d = 3 then f else v d
theorem wv3 (v : Nat → Nat) (f : Nat) : wv v f 3 = f := rfl
theorem wv_lt {f d : Nat} (hd : d < 3) : wv v f d = v d := if_neg (Nat.ne_of_lt hd)
theorem four {d : Nat} (h : d < 4) : d < 3 ∨ d = 3 := by omega
theorem St.wv_inj (S : St B r n m v R) (hr : r < 5) {f : Nat} (hf : B + 6 ≤ f) {d d' : Nat} (hd : d < 4) (hd' : d' < 4) (e : wv v f d = wv v f d') : d = d' := by
  rcases four hd with h | rfl
  · rcases four hd' with h' | rfl
    · rw [wv_lt h, wv_lt h'] at e
      exact S.inj _ _ h h' e
    · rw [wv_lt h, wv3] at e
      exact absurd e (Nat.ne_of_lt (Nat.lt_of_lt_of_le (S.small hr h) hf))
  · rcases four hd' with h' | rfl
    · rw [wv_lt h', wv3] at e
      exact absurd e.symm (Nat.ne_of_lt (Nat.lt_of_lt_of_le (S.small hr h') hf))
    · rfl
theorem St.wv_apart (S : St B r n m v R) {f : Nat} (hf : B + 6 ≤ f) {d : Nat} (hd : d < 4) : wv v f d ∉ R := by
  rcases four hd with h | rfl
  · rw [wv_lt h]; exact S.apart d h
  · rw [wv3]
    exact fun hz => Nat.lt_irrefl _ (Nat.lt_of_lt_of_le (S.smallR hz) hf)
theorem St.wv_small (S : St B r n m v R) (hr : r < 5) {i d : Nat} (hi : i < 6) (hd : d < 4) : wv v (B + 6 + i) d < B + 6 + 6 := by
  rcases four hd with h | rfl
  · rw [wv_lt h]; exact Nat.lt_of_lt_of_le (S.small hr h) (Nat.le_add_right _ _)
  · rw [wv3]; exact Nat.add_lt_add_left hi _
/-- what the joining makes of a strand's mark, of a ring's -/
theorem St.sub_v (S : St B r n m v R) (hr : r < 5) {i c : Nat} (hi : i < 5) (hc : c < 3) : sub2 (v (lab r i)) (v (lab r (i + 1))) (v c) = v (if c = lab r (i + 1) then lab r i else c) := by
  unfold sub2
  by_cases q : c = lab r (i + 1)
  · rw [if_pos (by rw [q]), if_pos q]
  · rw [if_neg fun e => q (S.inj _ _ hc ((lab_ok hr hi).lab3 (i + 1) (Nat.succ_lt_succ hi)) e), if_neg q]
theorem St.sub_R (S : St B r n m v R) (hr : r < 5) {i z : Nat} (hi : i < 5) (hz : z ∈ R) : sub2 (v (lab r i)) (v (lab r (i + 1))) z = z :=
  sub2_ne fun e => S.apart _ ((lab_ok hr hi).lab3 (i + 1) (Nat.succ_lt_succ hi)) (e ▸ hz)

/-- the marks behind one more hook -/
structure Nx (B r i : Nat) (m m' : List Nat) (v : Nat → Nat) (R : List Nat) : Prop where
  fr : Fr m' (B + 6 + 6)
  top : ∀ k, k < 6 → nth m' (B + 6 + k) = wv v (B + 6 + i) (newv r i (lab (hookN r i).1 k))
  old : ∀ j, j < B + 6 → (∃ c, c < 3 ∧ nth m' j = v (if c = lab r (i + 1) then lab r i else c)) ∨ nth m' j ∈ R
  cup : nth m' (B + i) = v (lab r i)
  keep : ∀ j, j < B + 6 → nth m j ∈ R → nth m' j = nth m j
theorem St.next (S : St B r n m v R) (hr : r < 5) (hB : B + 12 ≤ 30) {i : Nat} (hi : i < 5) : Nx B r i m ((stepQ B i).foldl stepN m) v R := by
  obtain ⟨len, g1, g2, g3, g4, g5⟩ := hook_marks hB hi S.fr
  generalize (stepQ B i).foldl stepN m = m' at len g1 g2 g3 g4 g5
  have L := lab_ok hr hi
  have i6 : i < 6 := Nat.lt_succ_of_lt hi
  rw [S.top i i6, S.top (i + 1) (Nat.succ_lt_succ hi)] at g1 g4
  have li := L.lab3 i i6
  have top : ∀ k, k < 6 → nth m' (B + 6 + k) = wv v (B + 6 + i) (newv r i (lab (hookN r i).1 k)) := fun k hk => by
    rw [← L.code k hk]
    unfold code
    by_cases a : k = i
    · rw [if_pos (.inl a), a, g2]; rfl
    · by_cases b : k = i + 1
      · rw [if_pos (.inr b), b, g3]; rfl
      · rw [if_neg (not_or.mpr ⟨a, b⟩), g4 k hk a b, S.top k hk, S.sub_v hr hi (L.lab3 k hk), wv_lt (lt3 hr hi (L.lab3 k hk))]
  have old : ∀ j, j < B + 6 → (∃ c, c < 3 ∧ nth m' j = v (if c = lab r (i + 1) then lab r i else c)) ∨ nth m' j ∈ R := fun j hj => by
    rcases S.all j hj with ⟨c, hc, e⟩ | hz
    · exact .inl ⟨c, hc, by rw [g1 j hj, e, S.sub_v hr hi hc]⟩
    · exact .inr (by rw [g1 j hj, S.sub_R hr hi hz]; exact hz)
  refine ⟨⟨len, fun j hj => ?_, g5⟩, top, old, ?_, fun j hj hz => by rw [g1 j hj, S.sub_R hr hi hz]⟩
  · by_cases a : j < B + 6
    · rcases old j a with ⟨c, hc, e⟩ | hz
      · rw [e]; exact Nat.lt_of_lt_of_le (S.small hr (lt3 hr hi hc)) (Nat.le_add_right _ _)
      · exact Nat.lt_of_lt_of_le (S.smallR hz) (Nat.le_add_right _ _)
    · obtain ⟨k, hk, rfl⟩ := le_split hj a
      rw [top k hk]
      exact S.wv_small hr i6 (L.new4 _ ((lab_ok L.lt hi).lab3 k hk))
  · rw [g1 _ (lt6 i6), S.top i i6, S.sub_v hr hi li]
    split
    · rfl
    · rfl

theorem St.step (S : St B r n m v R) (hr : r < 5) (hB : B + 12 ≤ 30) {i : Nat} (hi : i < 5) :
    ∃ v' R', St (B + 6) (hookN r i).1 (n + (hookN r i).2) ((stepQ B i).foldl stepN m) v' R' := by
  have N := S.next hr hB hi
  generalize (stepQ B i).foldl stepN m = m' at N
  have L := lab_ok hr hi
  have i6 : i < 6 := Nat.lt_succ_of_lt hi
  have li := L.lab3 i i6
  have hf : B + 6 ≤ B + 6 + i := Nat.le_add_right _ _
  have hring := L.ring
  have inj' : ∀ c c', c < 3 → c' < 3 → wv v (B + 6 + i) (newv r i c) = wv v (B + 6 + i) (newv r i c') → c = c' := fun c c' hc hc' e => L.inj c c' hc hc' (S.wv_inj hr hf (L.new4 c hc) (L.new4 c' hc') e)
  have new : ∀ j, j < B + 6 + 6 → ¬ j < B + 6 → ∃ c, c < 3 ∧ nth m' j = wv v (B + 6 + i) (newv r i c) := fun j hj a => by
    obtain ⟨k, hk, rfl⟩ := le_split hj a
    exact ⟨_, (lab_ok L.lt hi).lab3 k hk, N.top k hk⟩
  have lift : ∀ {j}, j < B + 6 → j < B + 6 + 6 := fun h => Nat.lt_of_lt_of_le h (Nat.le_add_right _ _)
  by_cases hc : lab r i = lab r (i + 1)
  · rw [if_pos hc] at hring
    refine ⟨fun c => wv v (B + 6 + i) (newv r i c), v (lab r i) :: R, ⟨N.fr, inj', N.top, by rw [List.length_cons, S.num, hring], List.nodup_cons.mpr ⟨S.apart _ li, S.nodup⟩, fun c h3 hz => ?_, fun j hj => ?_, fun z hz => ?_⟩⟩
    · rcases List.mem_cons.mp hz with e | hz
      · rw [← wv_lt (v := v) (f := B + 6 + i) li] at e
        exact L.ndead c h3 ((S.wv_inj hr hf (L.new4 c h3) (Nat.lt_succ_of_lt li) e).trans hc)
      · exact S.wv_apart hf (L.new4 c h3) hz
    · by_cases a : j < B + 6
      · rcases N.old j a with ⟨c, h3, e⟩ | hz
        · rcases L.cover c h3 with ⟨_, q⟩ | ⟨c', h3', q⟩
          · right
            rw [e, q, ← hc, if_pos rfl]
            exact List.mem_cons_self
          · left
            refine ⟨c', h3', ?_⟩
            show nth m' j = wv v (B + 6 + i) (newv r i c')
            rw [q, e, wv_lt (lt3 hr hi h3)]
        · exact .inr (List.mem_cons_of_mem _ hz)
      · exact .inl (new j hj a)
    · rcases List.mem_cons.mp hz with rfl | hz
      · exact ⟨B + i, lift (lt6 i6), N.cup⟩
      · obtain ⟨j, hj, e⟩ := S.has z hz
        exact ⟨j, lift hj, (N.keep j hj (e ▸ hz)).trans e⟩
  · rw [if_neg hc] at hring
    refine ⟨fun c => wv v (B + 6 + i) (newv r i c), R, ⟨N.fr, inj', N.top, by rw [S.num, hring]; rfl, S.nodup, fun c h3 => S.wv_apart hf (L.new4 c h3), fun j hj => ?_, fun z hz => ?_⟩⟩
    · by_cases a : j < B + 6
      · rcases N.old j a with ⟨c, h3, e⟩ | hz
        · rcases L.cover c h3 with ⟨q, _⟩ | ⟨c', h3', q⟩
          · exact absurd q hc
          · left
            refine ⟨c', h3', ?_⟩
            show nth m' j = wv v (B + 6 + i) (newv r i c')
            rw [q, e, wv_lt (lt3 hr hi h3)]
        · exact .inr hz
      · exact .inl (new j hj a)
    · obtain ⟨j, hj, e⟩ := S.has z hz
      exact ⟨j, lift hj, (N.keep j hj (e ▸ hz)).trans e⟩
end
end Mine
namespace Mine

noncomputable abbrev castL (m : List Nat) : List Int := m.map fun z => ((z : Nat) : Int)
theorem getI_cast (m : List Nat) (a : Nat) : getI (castL m) a = ((nth m a : Nat) : Int) := by
  unfold getI
  rw [nth_eq, List.getElem?_map]
  cases m[a]? <;> rfl
theorem stepM_cast (m : List Nat) (p : Nat × Nat) : stepM (castL m) p = castL (stepN m p) := by
  unfold stepM stepN
  rw [getI_cast, getI_cast]
  by_cases h : nth m p.1 = nth m p.2
  · rw [if_pos (by rw [h]), if_pos h]
  · rw [if_neg (fun q => h (by omega)), if_neg h]
    unfold castL
    rw [List.map_map, List.map_map]
    refine List.map_congr_left fun z _ => ?_
    simp only [Function.comp, substN]
    by_cases hz : z = nth m p.2
    · simp [hz]
    · have : ¬ ((z : Int) = (nth m p.2 : Nat)) := fun q => hz (by omega)
      simp [hz, this]
theorem foldM_cast : ∀ (ps : List (Nat × Nat)) (m : List Nat), ps.foldl stepM (castL m) = castL (ps.foldl stepN m)
  | [], _ => rfl
  | p :: ps, m => by rw [List.foldl_cons, List.foldl_cons, stepM_cast, foldM_cast ps]
theorem m00_cast : m00 = castL mN0 := rfl

noncomputable def joinsFrom : Nat → List Nat → List (Nat × Nat)
  | _, [] => []
  | h, i :: is => stepP h i ++ joinsFrom (h + 1) is
noncomputable def runN : Nat → Nat → List Nat → Nat × Nat
  | r, n, [] => (r, n)
  | r, n, i :: is => runN (hookN r i).1 (n + (hookN r i).2) is
theorem runN_runP : ∀ (is : List Nat) (r n : Nat), r < 5 → (∀ i ∈ is, i < 5) → runP r (n : Int) is = ((runN r n is).1, ((runN r n is).2 : Int))
  | [], _, _, _, _ => rfl
  | i :: is, r, n, hr, hl => by
    have hi := hl i List.mem_cons_self
    have h := List.all_eq_true.mp (List.all_eq_true.mp hookN_eq r (List.mem_range.mpr hr)) i (List.mem_range.mpr hi)
    simp only [Bool.and_eq_true, beq_iff_eq] at h
    have hlt : (hookT r i).1 < 5 := by
      have := List.all_eq_true.mp (List.all_eq_true.mp hook_lt r (List.mem_range.mpr hr)) i (List.mem_range.mpr hi)
      simpa using this
    show runP (hookT r i).1 ((n : Int) + (hookT r i).2) is = _
    rw [h.1] at hlt ⊢
    rw [h.2, ← Int.natCast_add]
    exact runN_runP is _ _ hlt fun j hj => hl j (List.mem_cons_of_mem _ hj)
theorem runN_lt : ∀ (is : List Nat) (r n : Nat), r < 5 → (∀ i ∈ is, i < 5) → (runN r n is).1 < 5
  | [], _, _, h, _ => h
  | i :: is, r, n, hr, hl => runN_lt is _ _ (lab_ok hr (hl i List.mem_cons_self)).lt fun j hj => hl j (List.mem_cons_of_mem _ hj)

theorem St.steps : ∀ (is : List Nat) (h r n : Nat) (m : List Nat) (v : Nat → Nat) (R : List Nat), St (6 * h) r n m v R → r < 5 → h + is.length ≤ 4 → (∀ i ∈ is, i < 5) →
    ∃ v' R', St (6 * (h + is.length)) (runN r n is).1 (runN r n is).2 ((joinsFrom h is).foldl stepN m) v' R'
  | [], _, _, _, _, v, R, S, _, _, _ => ⟨v, R, S⟩
  | i :: is, h, r, n, m, v, R, S, hr, hl, hi => by
    have h5 := hi i List.mem_cons_self
    rw [List.length_cons] at hl
    obtain ⟨v', R', S'⟩ := S.step hr (show 6 * h + 12 ≤ 30 by omega) h5
    obtain ⟨v2, R2, S2⟩ := St.steps is (h + 1) _ _ _ v' R' S' (lab_ok hr h5).lt (Nat.le_trans (Nat.le_of_eq (Nat.succ_add h is.length)) hl) fun j hj => hi j (List.mem_cons_of_mem _ hj)
    refine ⟨v2, R2, ?_⟩
    rw [joinsFrom, List.foldl_append, stepP_Q, List.length_cons, ← Nat.succ_add_eq_add_succ]
    exact S2

noncomputable def v00 (r c : Nat) : Nat := (((List.range 6).find? fun k => lab r k == c)).getD 9
noncomputable def base0 (r : Nat) : Bool := let m := (arcsP r).foldl stepN mN0
  ((List.range 6).all fun j => decide (nth m j < 6) && decide (nth m j = v00 r (lab r j)) && decide (lab r j < 3)) && ((List.range 30).all fun j => decide (j < 6) || decide (nth m j = j)) &&
  (List.range 3).all fun c => (List.range 3).all fun c' => v00 r c != v00 r c' || c == c'
theorem base_ok : ((List.range 5).all fun r => base0 r) = true := by decide +kernel
theorem St.base {r : Nat} (hr : r < 5) : St (6 * 0) r 0 ((arcsP r).foldl stepN mN0) (v00 r) [] := by
  have h := List.all_eq_true.mp base_ok r (List.mem_range.mpr hr)
  unfold base0 at h
  simp only [Bool.and_eq_true, decide_eq_true_eq, List.all_eq_true, List.mem_range, Bool.or_eq_true, bne_iff_ne, beq_iff_eq] at h
  obtain ⟨⟨h1, h2⟩, h3⟩ := h
  exact ⟨⟨by rw [steps_len]; rfl, fun j hj => by have := (h1 j (by omega)).1.1; omega, fun j q1 q2 => (h2 j q2).elim (fun q => by omega) id⟩,
    fun c c' hc hc' e => (h3 c hc c' hc').elim (fun q => absurd e q) id, fun k hk => by rw [show 6 * 0 + k = k by omega]; exact (h1 k hk).1.2, rfl, .nil, fun c hc q => (nomatch q),
    fun j hj => .inl ⟨lab r j, (h1 j (by omega)).2, (h1 j (by omega)).1.2⟩, fun z hz => (nomatch hz)⟩

/-- how many are new and not in τ -/
noncomputable def cnt (τ : List Nat) : List Nat → List Nat → Nat
  | _, [] => 0
  | pre, a :: l => (if a ∈ pre ∨ a ∈ τ then 0 else 1) + cnt τ (pre ++ [a]) l
theorem cnt_of (τ : List Nat) : ∀ (l pre R : List Nat), R.Nodup → (∀ z ∈ R, z ∉ τ) → (∀ z ∈ R, z ∉ pre) → (∀ z ∈ R, z ∈ l) → (∀ a ∈ l, a ∈ τ ∨ a ∈ pre ∨ a ∈ R) → cnt τ pre l = R.length
  | [], pre, R, _, _, _, h3, _ => by
    cases R with
    | nil => rfl
    | cons z R => exact absurd (h3 z List.mem_cons_self) (by simp)
  | a :: l, pre, R, hn, h1, h2, h3, h4 => by
    unfold cnt
    by_cases q : a ∈ pre ∨ a ∈ τ
    · have ha : a ∉ R := fun z => q.elim (h2 a z) (h1 a z)
      rw [if_pos q, cnt_of τ l (pre ++ [a]) R hn h1 (fun z hz hm => ?_) (fun z hz => ?_) (fun b hb => ?_)]
      · omega
      · rcases List.mem_append.mp hm with hm | hm
        · exact h2 z hz hm
        · rw [List.mem_singleton] at hm; exact ha (hm ▸ hz)
      · rcases List.mem_cons.mp (h3 z hz) with rfl | e
        · exact absurd hz ha
        · exact e
      · rcases h4 b (List.mem_cons_of_mem _ hb) with e | e | e
        · exact .inl e
        · exact .inr (.inl (List.mem_append_left _ e))
        · exact .inr (.inr e)
    · rw [not_or] at q
      have ha : a ∈ R := ((h4 a List.mem_cons_self).resolve_left q.2).resolve_left q.1
      have hm : ∀ z, z ∈ R.erase a ↔ z ≠ a ∧ z ∈ R := fun z => hn.mem_erase_iff
      have hlen := List.length_erase_of_mem ha
      have hpos : 0 < R.length := List.length_pos_of_mem ha
      rw [if_neg (by simp [q.1, q.2]), cnt_of τ l (pre ++ [a]) (R.erase a) (hn.erase a) (fun z hz => h1 z ((hm z).mp hz).2) (fun z hz hp => ?_) (fun z hz => ?_) (fun b hb => ?_), hlen]
      · omega
      · obtain ⟨z1, z2⟩ := (hm z).mp hz
        rcases List.mem_append.mp hp with hp | hp
        · exact h2 z z2 hp
        · exact z1 (List.mem_singleton.mp hp)
      · obtain ⟨z1, z2⟩ := (hm z).mp hz
        rcases List.mem_cons.mp (h3 z z2) with e | e
        · exact absurd e z1
        · exact e
      · by_cases e : b = a
        · exact .inr (.inl (List.mem_append_right _ (by rw [e]; exact List.mem_singleton.mpr rfl)))
        · rcases h4 b (List.mem_cons_of_mem _ hb) with e' | e' | e'
          · exact .inl e'
          · exact .inr (.inl (List.mem_append_left _ e'))
          · exact .inr (.inr ((hm b).mpr ⟨e, e'⟩))

theorem nth_mem {m : List Nat} {j : Nat} (h : j < m.length) : nth m j ∈ m := by
  rw [nth_eq, List.getElem?_eq_getElem h]
  exact List.getElem_mem h
theorem mem_nth {m : List Nat} {a : Nat} (h : a ∈ m) : ∃ j, j < m.length ∧ nth m j = a := by
  obtain ⟨j, hj, e⟩ := List.getElem_of_mem h
  exact ⟨j, hj, by rw [nth_eq, List.getElem?_eq_getElem hj]; exact e⟩
theorem nth_drop (m : List Nat) (a j : Nat) : nth (m.drop a) j = nth m (a + j) := by rw [nth_eq, nth_eq, List.getElem?_drop]

/-- what is wanted of the marks at last -/
structure Fin4 (r n : Nat) (m : List Nat) : Prop where
  len : m.length = 30
  same : ∀ j k, j < 6 → k < 6 → (nth (m.drop 24) j = nth (m.drop 24) k ↔ lab r j = lab r k)
  num : cnt (m.drop 24) [] m = n
theorem St.fin {r n : Nat} {m : List Nat} {v : Nat → Nat} {R : List Nat} (S : St (6 * 4) r n m v R) (hr : r < 5) : Fin4 r n m := by
  have top : ∀ k, k < 6 → nth (m.drop 24) k = v (lab r k) := fun k hk => by rw [nth_drop]; exact S.top k hk
  have l3 : ∀ k, k < 6 → lab r k < 3 := (lab_ok hr (i := 0) (by omega)).lab3
  have ld : (m.drop 24).length = 6 := by rw [List.length_drop, S.fr.len]
  refine ⟨S.fr.len, fun j k hj hk => ?_, ?_⟩
  · rw [top j hj, top k hk]
    exact ⟨S.inj _ _ (l3 j hj) (l3 k hk), fun e => by rw [e]⟩
  · rw [← S.num]
    refine cnt_of _ m [] R S.nodup (fun z hz hm => ?_) (fun z _ h => nomatch h) (fun z hz => ?_) fun a ha => ?_
    · obtain ⟨k, hk, e⟩ := mem_nth hm
      rw [ld] at hk
      rw [top k hk] at e
      exact S.apart _ (l3 k hk) (e ▸ hz)
    · obtain ⟨j, hj, e⟩ := S.has z hz
      rw [← e]
      exact nth_mem (by rw [S.fr.len]; omega)
    · obtain ⟨j, hj, e⟩ := mem_nth ha
      rw [S.fr.len] at hj
      rcases S.all j (by omega) with ⟨c, hc, q⟩ | q
      · obtain ⟨k, hk, rfl⟩ := has_lab hr hc
        left
        rw [← e, q, ← top k hk]
        exact nth_mem (by rw [ld]; exact hk)
      · right; right; rw [← e]; exact q

theorem marks_fin {r : Nat} (hr : r < 5) {hs : List Nat} (h4 : hs.length = 4) (hlt : ∀ i ∈ hs, i < 5) : Fin4 (runN r 0 hs).1 (runN r 0 hs).2 ((arcsP r ++ joinsFrom 0 hs).foldl stepN mN0) := by
  obtain ⟨v, R, S⟩ := St.steps hs 0 r 0 _ _ _ (St.base hr) hr (by omega) hlt
  rw [List.foldl_append]
  rw [show 0 + hs.length = 4 by omega] at S
  exact S.fin (runN_lt hs r 0 hr hlt)
end Mine
namespace Mine

theorem idx_cast (a : Nat) : ∀ m : List Nat, (castL m).idxOf (a : Int) = m.idxOf a
  | [] => rfl
  | b :: m => by
    show ((b : Int) :: castL m).idxOf (a : Int) = _
    rw [List.idxOf_cons, List.idxOf_cons, idx_cast a m]
    by_cases h : b = a
    · simp [h]
    · have h1 : ((b : Int) == (a : Int)) = false := beq_eq_false_iff_ne.mpr fun q => h (by omega)
      have h2 : (b == a) = false := by simpa using h
      rw [h1, h2]
theorem any_cast (a : Nat) (τ : List Nat) : ((castL τ).any fun z => z == (a : Int)) = decide (a ∈ τ) := by
  unfold castL
  rw [List.any_map]
  by_cases h : a ∈ τ
  · simp only [h, decide_true]
    exact List.any_eq_true.mpr ⟨a, h, by simp⟩
  · simp only [h, decide_false]
    refine List.any_eq_false.mpr fun z hz => ?_
    have : z ≠ a := fun q => h (q ▸ hz)
    simp only [Function.comp, beq_iff_eq]
    omega
theorem idx_split (a : Nat) (pre l : List Nat) : (pre ++ a :: l).idxOf a = pre.length ↔ a ∉ pre := by
  induction pre with
  | nil => simp
  | cons b pre ih =>
    rw [List.cons_append, List.idxOf_cons]
    by_cases h : b = a
    · simp [h]
    · have h2 : (b == a) = false := by simpa using h
      rw [h2]
      have h3 : a ≠ b := fun q => h q.symm
      simp only [cond_false, List.length_cons, List.mem_cons, not_or]
      constructor
      · intro q; exact ⟨h3, ih.mp (by omega)⟩
      · intro q; have := ih.mpr q.2; omega
theorem filter_cnt (τ : List Nat) : ∀ (l pre : List Nat), ((List.range' pre.length l.length).filter (rTest (castL (pre ++ l)) (castL τ))).length = cnt τ pre l
  | [], _ => rfl
  | a :: l, pre => by
    have ih := filter_cnt τ l (pre ++ [a])
    rw [List.append_assoc, List.singleton_append, List.length_append, List.length_singleton] at ih
    have hg : getI (castL (pre ++ a :: l)) pre.length = (a : Int) := by
      rw [getI_cast, nth_eq, List.getElem?_append_right (Nat.le_refl _)]
      simp
    have ht : rTest (castL (pre ++ a :: l)) (castL τ) pre.length = !(decide (a ∈ pre) || decide (a ∈ τ)) := by
      unfold rTest
      rw [hg, idx_cast, any_cast]
      have : ((((pre ++ a :: l).idxOf a : Nat) : Int) == ((pre.length : Nat) : Int)) = !decide (a ∈ pre) := by
        by_cases q : a ∈ pre
        · have : ¬ ((pre ++ a :: l).idxOf a = pre.length) := fun e => ((idx_split a pre l).mp e) q
          have h3 : ¬ ((((pre ++ a :: l).idxOf a : Nat) : Int) = ((pre.length : Nat) : Int)) := fun e => this (by omega)
          simp only [q, decide_true, Bool.not_true]
          exact beq_eq_false_iff_ne.mpr h3
        · have := (idx_split a pre l).mpr q
          rw [this]; simp [q]
      rw [this, Bool.not_or]
    rw [List.length_cons, List.range'_succ, List.filter_cons, ht]
    unfold cnt
    by_cases q : a ∈ pre ∨ a ∈ τ
    · have : (!(decide (a ∈ pre) || decide (a ∈ τ))) = false := by
        rcases q with q | q <;> simp [q]
      rw [this, if_neg (by simp), if_pos q, ih]; omega
    · have : (!(decide (a ∈ pre) || decide (a ∈ τ))) = true := by
        rw [not_or] at q; simp [q.1, q.2]
      rw [this, if_pos rfl, if_neg q, List.length_cons, ih]; omega

theorem rings_fin {r n : Nat} {m : List Nat} (F : Fin4 r n m) : (ringsR (castL m) ((castL m).drop 24)).length = n := by
  have h1 := F.num
  rw [← filter_cnt (m.drop 24) m []] at h1
  unfold ringsR
  rw [List.length_map, ← h1, List.nil_append, List.length_nil, F.len, List.range_eq_range']
  unfold castL
  rw [List.map_drop]

noncomputable def matesF (r : Nat) : D := .lst ((List.range 6).map fun k : Nat => .lst (((List.range 6).filter fun j : Nat => ((j : Int) != (k : Int)) && (lab r j == lab r k)).map fun j => .int (j : Nat)))
theorem matesF_ok : ((List.range 5).all fun r => D.beq (matesF r) (matesD r)) = true := by decide +kernel
theorem mates_fin {r n : Nat} {m : List Nat} (hr : r < 5) (F : Fin4 r n m) : matesR ((castL m).drop 24) = matesD r := by
  have hf : matesR ((castL m).drop 24) = matesF r := by
    unfold matesR matesF
    congr 1
    refine List.map_congr_left fun k hk => ?_
    unfold mateR
    congr 2
    refine List.filter_congr fun j hj => ?_
    have hs := F.same j k (List.mem_range.mp hj) (List.mem_range.mp hk)
    unfold jTest
    have hc : (castL m).drop 24 = castL (m.drop 24) := by unfold castL; rw [List.map_drop]
    rw [hc, getI_cast, getI_cast]
    congr 1
    by_cases q : nth (m.drop 24) j = nth (m.drop 24) k
    · have h3 := hs.mp q
      rw [q, h3]; simp
    · have h2 : ¬ lab r j = lab r k := fun e => q (hs.mpr e)
      have h3 : ¬ (((nth (m.drop 24) j : Nat) : Int) = ((nth (m.drop 24) k : Nat) : Int)) := fun e => q (by omega)
      rw [beq_eq_false_iff_ne.mpr h3, beq_eq_false_iff_ne.mpr h2]
  rw [hf]
  exact D.beq_eq (List.all_eq_true.mp matesF_ok r (List.mem_range.mpr hr))

theorem allP_from (base : List (Nat × Nat)) {hs : List Nat} (h : hs.length = 4) : allP base hs = base ++ joinsFrom 0 hs := by
  match hs, h with
  | [a, b, c, d], _ =>
    unfold allP
    congr 1

/-- what the strands are -/
theorem strands_pure {r : Nat} (hr : r < 5) {hs : List Nat} (h4 : hs.length = 4) (hlt : ∀ i ∈ hs, i < 5) :
    matesR (((allP (arcsP r) hs).foldl stepM m00).drop 24) = matesD (runP r 0 hs).1 ∧ ((ringsR ((allP (arcsP r) hs).foldl stepM m00) (((allP (arcsP r) hs).foldl stepM m00).drop 24)).length : Int) = (runP r 0 hs).2 := by
  have hfin := marks_fin hr h4 hlt
  have hrun := runN_runP hs r 0 hr hlt
  have hr' := runP_lt hs r 0 hr hlt
  rw [← allP_from _ h4] at hfin
  rw [m00_cast, foldM_cast]
  have e0 : ((0 : Nat) : Int) = 0 := rfl
  rw [e0] at hrun
  rw [hrun] at hr' ⊢
  exact ⟨mates_fin hr' hfin, by rw [rings_fin hfin]⟩
end Mine
namespace Mine

noncomputable def mArcs : List Str := [Str.ofString "stand", Str.ofString "arcs"]
noncomputable def arcsD (r : Nat) : D := .lst ((arcsP r).map pairD)
noncomputable def Φ7 : Fn := fun g ds => if g = fArcs then defD fns6 Φ6 mArcs 20 (rc 6).scope.names psArcs (rc 6).body ds else Φ6 g ds
theorem arcs_ok : ((List.range 5).all fun r => isD (Φ7 fArcs [row r]) (arcsD r)) = true := by decide +kernel
noncomputable def tArcs : List D → Option D | [x] => (rowIdx x).map arcsD | _ => Option.none
noncomputable def Φ7' : Fn := fun g ds => if g = fArcs then tArcs ds else Φ6 g ds
noncomputable def fns7 : List Str := fArcs :: fns6
noncomputable def arcsIdx (x : D) : Option Nat := (List.range 5).find? fun r => D.beq (arcsD r) x
theorem arcsIdx_spec {x : D} {r : Nat} (h : arcsIdx x = some r) : r < 5 ∧ arcsD r = x :=
  ⟨List.mem_range.mp (List.mem_of_find?_eq_some h), D.beq_eq (List.find?_some (p := fun r => D.beq (arcsD r) x) h)⟩
noncomputable def tStrands : List D → Option D
  | [x, .lst ds] => (match arcsIdx x, hooksOf ds with | some r, some hs => if hs.length = 4 then some (.tup [matesD (runP r 0 hs).1, .int (runP r 0 hs).2]) else Option.none | _, _ => Option.none)
  | _ => Option.none
noncomputable def Φ8 : Fn := fun g ds => if g = fStrands then tStrands ds else Φ7' g ds
noncomputable def fns8 : List Str := fStrands :: fns7

theorem arcs_len : ((List.range 5).all fun r => (arcsP r).length == 3 && (arcsP r).all fun p => decide (p.1 < 30 ∧ p.2 < 30)) = true := by decide +kernel
theorem stepP_lt {h i : Nat} (hh : h < 4) (hi : i < 5) : ∀ p ∈ stepP h i, p.1 < 30 ∧ p.2 < 30 := fun p hp => by
  unfold stepP at hp
  rcases List.mem_cons.mp hp with rfl | hp
  · simp only; omega
  rcases List.mem_cons.mp hp with rfl | hp
  · simp only; omega
  obtain ⟨k, hk, rfl⟩ := List.mem_map.mp hp
  have := List.mem_range.mp (List.mem_filter.mp hk).1
  simp only; omega
theorem allP_lt {r : Nat} (hr : r < 5) {hs : List Nat} (hlt : ∀ i ∈ hs, i < 5) : ∀ p ∈ allP (arcsP r) hs, p.1 < 30 ∧ p.2 < 30 := fun p hp => by
  unfold allP at hp
  rcases List.mem_append.mp hp with hp | hp
  · have h := List.all_eq_true.mp arcs_len r (List.mem_range.mpr hr)
    rw [Bool.and_eq_true] at h
    simpa using List.all_eq_true.mp h.2 p hp
  · obtain ⟨t, ht, hp⟩ := List.mem_flatMap.mp hp
    exact stepP_lt (List.mem_range.mp ht) (hs_lt hlt t) p hp
theorem allP_len {r : Nat} (hr : r < 5) {hs : List Nat} (hlt : ∀ i ∈ hs, i < 5) : (allP (arcsP r) hs).length ≤ 10000 := by
  have hb := arcs_len
  have h3 : (arcsP r).length = 3 := by
    have h := List.all_eq_true.mp arcs_len r (List.mem_range.mpr hr)
    rw [Bool.and_eq_true] at h
    simpa using h.1
  have := JL_len (base := (arcsP r).map pairD) (by simpa using h3) (hs_lt hlt) 4
  rw [JL_all, List.length_map] at this
  omega

section
variable {mg mb : Str → Option Value} {h₁ : Heap} {prog : Program} {w : World}
theorem Facts.x7 (F : Facts mg mb h₁) : Cx prog w h₁ 9 fns7 Φ7 := F.pushS F.x6 6 (by decide +kernel) (by decide +kernel) bnd6 mArcs 20
theorem Facts.x7' (F : Facts mg mb h₁) : Cx prog w h₁ 9 fns7 Φ7' := F.x7.less fun f hf ds d h => by
  unfold Φ7' at h
  split at h
  · rename_i hfm
    subst hfm
    unfold tArcs at h
    split at h
    · rename_i x
      cases hr : rowIdx x with
      | none => rw [hr] at h; cases h
      | some r =>
        rw [hr] at h
        cases h
        obtain ⟨h1, rfl⟩ := rowIdx_spec hr
        exact isD_eq (List.all_eq_true.mp arcs_ok r (List.mem_range.mpr h1))
    · cases h
  · rename_i hfm
    unfold Φ7
    rw [if_neg hfm]; exact h
theorem Facts.x8 (F : Facts mg mb h₁) : Cx prog w h₁ 10 fns8 Φ8 := F.push F.x7' 7 (by decide +kernel) (by decide +kernel) bnd7 (Nat.lt_succ_self _) fun ds d h => by
  unfold tStrands at h
  split at h
  · split at h
    · rename_i r hs hr hh
      split at h
      · rename_i h4
        cases h
        obtain ⟨h1, rfl⟩ := arcsIdx_spec hr
        obtain ⟨rfl, h3⟩ := hooksOf_spec hh
        obtain ⟨p1, p2⟩ := strands_pure h1 h4 h3
        have hl : (arcsP r).length = 3 := by
          have h := List.all_eq_true.mp arcs_len r (List.mem_range.mpr h1)
          rw [Bool.and_eq_true] at h
          simpa using h.1
        obtain ⟨ρ', hx⟩ := st_xs (F.cx2 (prog := prog) (w := w)) hl (fun p hp => by
          have h := List.all_eq_true.mp arcs_len r (List.mem_range.mpr h1)
          rw [Bool.and_eq_true] at h
          simpa using List.all_eq_true.mp h.2 p hp) h4 h3 (allP_lt h1 h3) (allP_len h1 h3)
        rw [p1, p2] at hx
        exact ⟨rfl, ρ', fun own A s₀ E rm hE => hx own A s₀ E (rm.less (by omega)) hE⟩
      · cases h
    · cases h
  · cases h
end
end Mine
namespace Mine

noncomputable abbrev nScript : Str := Str.ofString "script"
noncomputable abbrev nDrawn : Str := Str.ofString "drawn"
noncomputable abbrev nNumbers : Str := Str.ofString "numbers"
noncomputable abbrev nKinds : Str := Str.ofString "kinds"
noncomputable abbrev nX : Str := Str.ofString "x"
noncomputable abbrev nMates : Str := Str.ofString "mates"
noncomputable abbrev nDueM : Str := Str.ofString "due_mates"
noncomputable abbrev nDueR : Str := Str.ofString "due_rings"
noncomputable def b9 : List Stmt := (rc 9).body
noncomputable abbrev ns9 : List (Str × NameKind) := (rc 9).scope.names
theorem b9_eq : (rc 9).body = [bAt b9 0, bAt b9 1, bAt b9 2, bAt b9 3, bAt b9 4, bAt b9 5, bAt b9 6, bAt b9 7, bAt b9 8] := by kernel_rfl
noncomputable def v90 : Expr := aV (bAt b9 0)
theorem s90_eq : bAt b9 0 = .Assign [.Name nDrawn (aX (bAt b9 0))] (.ListComp (lE v90) [⟨.Name nX (lPx v90), lI v90, [], 0⟩] (lS v90) (lP v90)) (aP (bAt b9 0)) := by kernel_rfl
noncomputable def e90 (S : List D) : List (Str × V) := [(nScript, .sh (.lst S))]
noncomputable def e91 (d : D) : List (Str × V) := [(nDrawn, .sh d)]
noncomputable def e92 (d : D) : List (Str × V) := [(nNumbers, .sh d)]
theorem law_bind (S : List D) : ((e90 S).map (·.1)).map (bindρ psLaw [.lst S] fun _ => Option.none) = (e90 S).map fun p => some p.2 := by kernel_rfl
theorem k90 (S : List D) : okVar ns9 (envL (e90 S)) nDrawn = true := by kernel_rfl
theorem o90 (S : List D) : compOk ns9 (shρ (envL (e90 S))) (lS v90) nX = true := by kernel_rfl
theorem i90 (S : List D) : ev fns8 Φ8 19 ns9 (shρ (envL (e90 S))) (lI v90) = sliceD (.lst S) Option.none (some 5) := by kernel_rfl
theorem x90 (S : List D) (z : Int) : ev fns8 Φ8 19 (relNames ns9 (lS v90)) (compρ (shρ (envL (e90 S))) (lS v90) nX (.int z)) (lE v90) = some (.int (z.fmod 1000000)) := by kernel_rfl
theorem w90 (S : List D) (d : D) : ((e91 d).map (·.1)).map (upd (envL (e90 S)) nDrawn (.sh d)) = (e91 d).map fun p => some p.2 := by kernel_rfl
noncomputable def dfl : List Int := [3, 1, 0, 2, 1]
noncomputable def numsD (N : List Int) : D := .lst (N.map .int)
theorem s91_0 : got [nNumbers] (ex1 fns8 Φ8 [] ns9 20 (envL (e91 (numsD []))) (bAt b9 1)) = some [some (.sh (numsD dfl))] := by kernel_rfl
theorem s91_1 (a : Int) : got [nNumbers] (ex1 fns8 Φ8 [] ns9 20 (envL (e91 (numsD [a]))) (bAt b9 1)) = some [some (.sh (numsD [a, 1, 0, 2, 1]))] := by kernel_rfl
theorem s91_2 (a b : Int) : got [nNumbers] (ex1 fns8 Φ8 [] ns9 20 (envL (e91 (numsD [a, b]))) (bAt b9 1)) = some [some (.sh (numsD [a, b, 0, 2, 1]))] := by kernel_rfl
theorem s91_3 (a b c : Int) : got [nNumbers] (ex1 fns8 Φ8 [] ns9 20 (envL (e91 (numsD [a, b, c]))) (bAt b9 1)) = some [some (.sh (numsD [a, b, c, 2, 1]))] := by kernel_rfl
theorem s91_4 (a b c d : Int) : got [nNumbers] (ex1 fns8 Φ8 [] ns9 20 (envL (e91 (numsD [a, b, c, d]))) (bAt b9 1)) = some [some (.sh (numsD [a, b, c, d, 1]))] := by kernel_rfl
theorem s91_5 (a b c d e : Int) : got [nNumbers] (ex1 fns8 Φ8 [] ns9 20 (envL (e91 (numsD [a, b, c, d, e]))) (bAt b9 1)) = some [some (.sh (numsD [a, b, c, d, e]))] := by kernel_rfl

noncomputable def rowsD : D := .lst [row 0, row 1, row 2, row 3, row 4]
noncomputable def kindsD : D := .lst (kinds.map .str)
noncomputable def e93 (N : D) (R : D) : List (Str × V) := [(nNumbers, .sh N), (nRow, .sh R)]
noncomputable def e94 (N : D) (R : D) : List (Str × V) := [(nNumbers, .sh N), (nRow, .sh R), (nKinds, .sh kindsD)]
noncomputable def e95 (N R T : D) : List (Str × V) := [(nNumbers, .sh N), (nRow, .sh R), (nDress, .sh T)]
noncomputable def e96 (R T H : D) : List (Str × V) := [(nRow, .sh R), (nDress, .sh T), (nHooks, .sh H)]
theorem s92_eq : bAt b9 2 = .Assign [.Name nRow (aX (bAt b9 2))] (aV (bAt b9 2)) (aP (bAt b9 2)) := by kernel_rfl
theorem k92 (N : D) : okVar ns9 (envL (e92 N)) nRow = true := by kernel_rfl
theorem x92 (a b c d e : Int) : ev fns8 Φ8 20 ns9 (shρ (envL (e92 (numsD [a, b, c, d, e])))) (aV (bAt b9 2)) = idxD rowsD (.int (a.fmod 5)) := by kernel_rfl
theorem w92 (N R : D) : ((e93 N R).map (·.1)).map (upd (envL (e92 N)) nRow (.sh R)) = (e93 N R).map fun p => some p.2 := by kernel_rfl
theorem s93 (N R : D) : got ((e94 N R).map (·.1)) (ex1 fns8 Φ8 [] ns9 20 (envL (e93 N R)) (bAt b9 3)) = some ((e94 N R).map fun p => some p.2) := by kernel_rfl
noncomputable def v94 : Expr := aV (bAt b9 4)
theorem s94_eq : bAt b9 4 = .Assign [.Name nDress (aX (bAt b9 4))] (.ListComp (lE v94) [⟨.Name nK (lPx v94), lI v94, [], 0⟩] (lS v94) (lP v94)) (aP (bAt b9 4)) := by kernel_rfl
theorem k94 (N R : D) : okVar ns9 (envL (e94 N R)) nDress = true := by kernel_rfl
theorem o94 (N R : D) : compOk ns9 (shρ (envL (e94 N R))) (lS v94) nK = true := by kernel_rfl
theorem i94 (N R : D) : ev fns8 Φ8 19 ns9 (shρ (envL (e94 N R))) (lI v94) = some (.rng 0 6 1) := by kernel_rfl
theorem x94 (a b c d e : Int) (R : D) (z : Int) : ev fns8 Φ8 19 (relNames ns9 (lS v94)) (compρ (shρ (envL (e94 (numsD [a, b, c, d, e]) R))) (lS v94) nK (.int z)) (lE v94) = idxD kindsD (.int ((a.fdiv 5 + z).fmod 7)) := by kernel_rfl
theorem w94 (N R T : D) : ((e95 N R T).map (·.1)).map (upd (envL (e94 N R)) nDress (.sh T)) = (e95 N R T).map fun p => some p.2 := by kernel_rfl
noncomputable def v95 : Expr := aV (bAt b9 5)
theorem s95_eq : bAt b9 5 = .Assign [.Name nHooks (aX (bAt b9 5))] (.ListComp (lE v95) [⟨.Name nX (lPx v95), lI v95, [], 0⟩] (lS v95) (lP v95)) (aP (bAt b9 5)) := by kernel_rfl
theorem k95 (N R T : D) : okVar ns9 (envL (e95 N R T)) nHooks = true := by kernel_rfl
theorem o95 (N R T : D) : compOk ns9 (shρ (envL (e95 N R T))) (lS v95) nX = true := by kernel_rfl
theorem i95 (a b c d e : Int) (R T : D) : ev fns8 Φ8 19 ns9 (shρ (envL (e95 (numsD [a, b, c, d, e]) R T))) (lI v95) = some (numsD [b, c, d, e]) := by kernel_rfl
theorem x95 (N R T : D) (z : Int) : ev fns8 Φ8 19 (relNames ns9 (lS v95)) (compρ (shρ (envL (e95 N R T))) (lS v95) nX (.int z)) (lE v95) = some (.int (z.fmod 5)) := by kernel_rfl
theorem w95 (N R T H : D) : ((e96 R T H).map (·.1)).map (upd (envL (e95 N R T)) nHooks (.sh H)) = (e96 R T H).map fun p => some p.2 := by kernel_rfl
end Mine
namespace Mine

noncomputable def tKk : Stmt → Nat | .Assign [.Tuple _ k _] _ _ => k | _ => 0
noncomputable def tPp : Stmt → Pos | .Assign [.Tuple _ _ p] _ _ => p | _ => ⟨0, 0, 0, 0⟩
noncomputable def cA : Expr → List Expr | .Call _ a _ _ => a | _ => []
noncomputable def cFp : Expr → Pos | .Call (.Name _ p) _ _ _ => p | _ => ⟨0, 0, 0, 0⟩
noncomputable def cCp : Expr → Pos | .Call _ _ _ p => p | _ => ⟨0, 0, 0, 0⟩
noncomputable def s96 : Stmt := bAt b9 6
noncomputable def s97 : Stmt := bAt b9 7
noncomputable def v96 : Expr := aV s96
noncomputable def v97 : Expr := aV s97
theorem s96_eq : s96 = .Assign [.Tuple (tE s96) (tKk s96) (tPp s96)] (.Call (.Name fRun (cFp v96)) (cA v96) [] (cCp v96)) (aP s96) := by kernel_rfl
theorem s97_eq : s97 = .Assign [.Tuple (tE s97) (tKk s97) (tPp s97)] (.Call (.Name fStrands (cFp v97)) (cA v97) [] (cCp v97)) (aP s97) := by kernel_rfl
theorem x96 (R T H : D) : ev fns8 Φ8 20 ns9 (shρ (envL (e96 R T H))) (.Call (.Name fRun (cFp v96)) (cA v96) [] (cCp v96)) = Φ8 fRun [R, T, H] := by kernel_rfl
theorem a96 (R T H M n s : D) : asgNames ns9 (tE s96) [M, n, s] (envL (e96 R T H)) = some (upd (upd (upd (envL (e96 R T H)) nMates (.sh M)) nRings (.sh n)) nSound (.sh s)) := by kernel_rfl
noncomputable def e97 (R H M n s : D) : List (Str × V) := [(nRow, .sh R), (nHooks, .sh H), (nMates, .sh M), (nRings, .sh n), (nSound, .sh s)]
theorem w96 (R T H M n s : D) : ((e97 R H M n s).map (·.1)).map (upd (upd (upd (envL (e96 R T H)) nMates (.sh M)) nRings (.sh n)) nSound (.sh s)) = (e97 R H M n s).map fun p => some p.2 := by kernel_rfl
theorem x97 : ((List.range 5).map fun r => fun (H M n s : D) => ev fns8 Φ8 20 ns9 (shρ (envL (e97 (row r) H M n s))) (.Call (.Name fStrands (cFp v97)) (cA v97) [] (cCp v97))) = (List.range 5).map fun r => fun (H M n s : D) => Φ8 fStrands [arcsD r, H] := by kernel_rfl
theorem a97 (R H M n s M' n' : D) : asgNames ns9 (tE s97) [M', n'] (envL (e97 R H M n s)) = some (upd (upd (envL (e97 R H M n s)) nDueM (.sh M')) nDueR (.sh n')) := by kernel_rfl
noncomputable def e98 (M n s M' n' : D) : List (Str × V) := [(nMates, .sh M), (nRings, .sh n), (nSound, .sh s), (nDueM, .sh M'), (nDueR, .sh n')]
theorem w97 (R H M n s M' n' : D) : ((e98 M n s M' n').map (·.1)).map (upd (upd (envL (e97 R H M n s)) nDueM (.sh M')) nDueR (.sh n')) = (e98 M n s M' n').map fun p => some p.2 := by kernel_rfl
theorem x98 : ((List.range 5).map fun r => fun n : Int => gotR (exS fns8 Φ8 [] ns9 20 (envL (e98 (matesD r) (.int n) (.bool true) (matesD r) (.int n))) [bAt b9 8])) = (List.range 5).map fun r => fun n : Int => some (.bool (n == n)) := by kernel_rfl

theorem arcsIdx_arcs : ((List.range 5).all fun r => arcsIdx (arcsD r) == some r) = true := by decide +kernel
theorem hooksOf_nat : ∀ {hs : List Nat}, (∀ i ∈ hs, i < 5) → hooksOf (hs.map fun i => D.int (i : Nat)) = some hs
  | [], _ => rfl
  | i :: hs, h => by
    have hi := h i List.mem_cons_self
    have e : hookOf (.int (i : Nat)) = some i := by
      unfold hookOf
      simp only
      rw [if_pos (by omega)]
      simp
    rw [List.map_cons, hooksOf, e, hooksOf_nat fun j hj => h j (List.mem_cons_of_mem _ hj)]
theorem run_val {r k : Nat} (hr : r < 5) (hk : k < 7) {hs : List Nat} (h4 : hs.length = 4) (hlt : ∀ i ∈ hs, i < 5) : Φ8 fRun [row r, dress k, hooksD hs] = some (.tup [matesD (runP r 0 hs).1, .int (runP r 0 hs).2, .bool true]) := by
  have e1 := rowIdx_row hr
  have e2 := dressIdx_dress hk
  have n1 : fRun ≠ fStrands := by decide +kernel
  have n2 : fRun ≠ fArcs := by decide +kernel
  unfold Φ8 Φ7' Φ6
  rw [if_neg n1, if_neg n2, if_pos rfl]
  unfold tRun hooksD
  simp only [e1, e2, hooksOf_nat hlt]
  rw [if_pos (by omega)]
theorem strands_val {r : Nat} (hr : r < 5) {hs : List Nat} (h4 : hs.length = 4) (hlt : ∀ i ∈ hs, i < 5) : Φ8 fStrands [arcsD r, hooksD hs] = some (.tup [matesD (runP r 0 hs).1, .int (runP r 0 hs).2]) := by
  have e1 : arcsIdx (arcsD r) = some r := by simpa using List.all_eq_true.mp arcsIdx_arcs r (List.mem_range.mpr hr)
  unfold Φ8
  rw [if_pos rfl]
  unfold tStrands hooksD
  simp only [e1, hooksOf_nat hlt]
  rw [if_pos h4]

theorem fmod_nat {a : Int} {n : Nat} (hn : 0 < n) : ∃ r : Nat, r < n ∧ a.fmod (n : Int) = (r : Int) := by
  have h1 : 0 ≤ a.fmod (n : Int) := Int.fmod_nonneg_of_pos a (by omega)
  have h2 : a.fmod (n : Int) < n := Int.fmod_lt_of_pos a (by omega)
  exact ⟨(a.fmod n).toNat, by omega, by omega⟩
theorem rows_at : ((List.range 5).all fun r => isD (idxD rowsD (.int (r : Nat))) (row r)) = true := by decide +kernel
theorem kinds_idx : ((List.range 7).all fun k => (List.range 6).all fun j => isD (idxD kindsD (.int (((k + j) % 7 : Nat) : Int))) (.str ((kinds[(k + j) % 7]?).getD ⟨#[]⟩))) = true := by decide +kernel
end Mine
namespace Mine

theorem dress_at {q : Int} {k j : Nat} (hk : q.fmod 7 = (k : Int)) : (q + (j : Int)).fmod 7 = (((k + j) % 7 : Nat) : Int) := by
  rw [Int.fmod_eq_emod_of_nonneg _ (by decide)] at hk ⊢
  rw [← Int.emod_add_emod, hk]
  rfl

section
variable {prog : Program} {w : World} {h₁ : Heap} {K : Nat}

theorem law_tail (X : Cx prog w h₁ K fns8 Φ8) (a b c d e : Int) : ∃ ρ', ∀ (own : List Addr) (A : Around) (s₀ : Shared) (E : Env), Rm A K → E.scope = (rc 9).scope →
    XS prog w h₁ s₀ own E A (envL (e92 (numsD [a, b, c, d, e]))) (.ret (.bool true)) ρ' (execs [bAt b9 2, bAt b9 3, bAt b9 4, bAt b9 5, s96, s97, bAt b9 8] E) := by
  obtain ⟨r, hr, er⟩ := fmod_nat (a := a) (n := 5) (by omega)
  obtain ⟨k, hk, ek⟩ := fmod_nat (a := a.fdiv 5) (n := 7) (by omega)
  obtain ⟨p, hp, ep⟩ := fmod_nat (a := b) (n := 5) (by omega)
  obtain ⟨q, hq, eq⟩ := fmod_nat (a := c) (n := 5) (by omega)
  obtain ⟨t, ht, et⟩ := fmod_nat (a := d) (n := 5) (by omega)
  obtain ⟨u, hu, eu⟩ := fmod_nat (a := e) (n := 5) (by omega)
  have hlt : ∀ i ∈ [p, q, t, u], i < 5 := by simp [hp, hq, ht, hu]
  have hr' := runP_lt [p, q, t, u] r 0 hr hlt
  have hx := congrFun (List.map_inj_left.mp x98 _ (List.mem_range.mpr hr')) (runP r 0 [p, q, t, u]).2
  have hx : gotR (exS fns8 Φ8 [] ns9 20 (envL (e98 (matesD (runP r 0 [p, q, t, u]).1) (.int (runP r 0 [p, q, t, u]).2) (.bool true) (matesD (runP r 0 [p, q, t, u]).1) (.int (runP r 0 [p, q, t, u]).2))) [bAt b9 8]) = some (.bool true) := by
    refine hx.trans ?_
    simp
  obtain ⟨ρ', he⟩ := gotR_spec hx
  refine ⟨ρ', fun own A s₀ E rm hE => ?_⟩
  have hE' : E.scope.names = ns9 := by rw [hE]
  have er' : a.fmod 5 = (r : Int) := er
  have ek' : (a.fdiv 5).fmod 7 = (k : Int) := ek
  rw [s92_eq]
  refine XS.seq (assign_plain X (n := 20) (d := row r) rm (by rw [hE']; exact k92 _) ?_) ?_
  · rw [hE']
    refine (x92 a b c d e).trans ?_
    rw [er']
    exact isD_eq (List.all_eq_true.mp rows_at r (List.mem_range.mpr hr))
  refine XS.weak (envL_got (w92 _ (row r))) ?_
  refine XS.step1 X rm hE' (s93 _ _) ?_
  rw [s94_eq]
  refine XS.seq (assign_plain X (n := 20) (d := dress k) rm (by rw [hE']; exact k94 _ _) ?_) ?_
  · rw [hE']
    have := ev_compF (fns := fns8) (Φ := Φ8) (n := 19) (px := lPx v94) (pos := lP v94) (elt := lE v94) (ifs := []) (fun _ => true) (fun d => match d with | .int i => .str ((kinds[(k + i.toNat) % 7]?).getD ⟨#[]⟩) | d => d) (o94 (numsD [a, b, c, d, e]) (row r)) (i94 _ _) iter6 (by simp [numD]) (fun it hit => rfl) (fun it hit _ => ?_)
    · refine this.trans ?_
      rw [List.filter_eq_self.mpr (fun _ _ => rfl)]
      unfold dress numD
      rw [List.map_map]
      rfl
    · obtain ⟨j, hj, rfl⟩ := List.mem_map.mp hit
      rw [x94, dress_at ek']
      exact isD_eq (List.all_eq_true.mp (List.all_eq_true.mp kinds_idx k (List.mem_range.mpr hk)) j hj)
  refine XS.weak (envL_got (w94 _ _ (dress k))) ?_
  rw [s95_eq]
  refine XS.seq (assign_plain X (n := 20) (d := hooksD [p, q, t, u]) rm (by rw [hE']; exact k95 _ _ _) ?_) ?_
  · rw [hE']
    have := ev_compF (fns := fns8) (Φ := Φ8) (n := 19) (px := lPx v95) (pos := lP v95) (elt := lE v95) (ifs := []) (fun _ => true) (fun d => match d with | .int i => .int (i.fmod 5) | d => d) (o95 (numsD [a, b, c, d, e]) (row r) (dress k)) (i95 a b c d e _ _) (ds := [b, c, d, e].map .int) (by rfl) (by simp) (fun it hit => rfl) (fun it hit _ => ?_)
    · refine this.trans ?_
      rw [List.filter_eq_self.mpr (fun _ _ => rfl)]
      have ep' : b.fmod 5 = (p : Int) := ep
      have eq' : c.fmod 5 = (q : Int) := eq
      have et' : d.fmod 5 = (t : Int) := et
      have eu' : e.fmod 5 = (u : Int) := eu
      simp only [List.map_cons, List.map_nil, hooksD, ep', eq', et', eu']
    · obtain ⟨z, _, rfl⟩ := List.mem_map.mp hit
      exact x95 _ _ _ z
  refine XS.weak (envL_got (w95 _ _ _ (hooksD [p, q, t, u]))) ?_
  rw [s96_eq]
  refine XS.seq (assign_tuple X (n := 20) rm (by rw [hE']; exact (x96 _ _ _).trans (run_val hr hk rfl hlt)) (by rw [hE']; exact a96 _ _ _ _ _ _)) ?_
  refine XS.weak (envL_got (w96 _ _ _ _ _ _)) ?_
  rw [s97_eq]
  refine XS.seq (assign_tuple X (n := 20) rm (by
    rw [hE']
    have := List.map_inj_left.mp x97 r (List.mem_range.mpr hr)
    exact (congrFun (congrFun (congrFun (congrFun this _) _) _) _).trans (strands_val hr rfl hlt)) (by rw [hE']; exact a97 _ _ _ _ _ _ _)) ?_
  refine XS.weak (envL_got (w97 _ _ _ _ _ _ _)) ?_
  rw [← hE'] at he
  exact exS_sound X rm 20 _ _ _ _ he
end
end Mine
namespace Mine

theorem clip_ge {n : Nat} (h : 5 ≤ n) : clipAt n 5 = 5 := by
  have h' : (5 : Int) ≤ n := Int.ofNat_le.mpr h
  unfold clipAt
  rw [if_neg (by decide), Int.min_eq_left h']
  rfl
theorem clip_le {n : Nat} (h : n ≤ 5) : clipAt n 5 = n := by
  have h' : (n : Int) ≤ 5 := Int.ofNat_le.mpr h
  unfold clipAt
  rw [if_neg (by decide), Int.min_eq_right h', Int.max_eq_right (Int.natCast_nonneg n)]
  exact Int.toNat_natCast n
theorem slice5 (S : List D) (h : S.length ≤ 10000) : sliceD (.lst S) Option.none (some 5) = some (.lst (S.take 5)) := by
  show (if S.length ≤ 10000 then some (D.lst ((S.drop 0).take (clipAt S.length 5 - 0))) else Option.none) = _
  rw [if_pos h, List.drop_zero, Nat.sub_zero]
  by_cases q : 5 ≤ S.length
  · rw [clip_ge q]
  · have q' : S.length ≤ 5 := Nat.le_of_lt (Nat.lt_of_not_le q)
    rw [clip_le q', List.take_of_length_le (Nat.le_refl _), List.take_of_length_le q']

section
variable {prog : Program} {w : World} {h₁ : Heap} {K : Nat}
theorem nums_xs (X : Cx prog w h₁ K fns8 Φ8) (l : List Int) (hl : l.length ≤ 5) : ∃ ρ', ∀ (own : List Addr) (A : Around) (s₀ : Shared) (E : Env), Rm A K → E.scope = (rc 9).scope →
    XS prog w h₁ s₀ own E A (envL (e91 (numsD l))) (.ret (.bool true)) ρ' (execs [bAt b9 1, bAt b9 2, bAt b9 3, bAt b9 4, bAt b9 5, s96, s97, bAt b9 8] E) := by
  have go : ∀ a b c d e, (got [nNumbers] (ex1 fns8 Φ8 [] ns9 20 (envL (e91 (numsD l))) (bAt b9 1)) = some [some (.sh (numsD [a, b, c, d, e]))]) → ∃ ρ', ∀ (own : List Addr) (A : Around) (s₀ : Shared) (E : Env), Rm A K → E.scope = (rc 9).scope →
      XS prog w h₁ s₀ own E A (envL (e91 (numsD l))) (.ret (.bool true)) ρ' (execs [bAt b9 1, bAt b9 2, bAt b9 3, bAt b9 4, bAt b9 5, s96, s97, bAt b9 8] E) := fun a b c d e hg => by
    obtain ⟨ρ', h⟩ := law_tail X a b c d e
    exact ⟨ρ', fun own A s₀ E rm hE => XS.step1 X rm (by rw [hE]) (l' := e92 (numsD [a, b, c, d, e])) hg (h own A s₀ E rm hE)⟩
  match l, hl with
  | [], _ => exact go 3 1 0 2 1 s91_0
  | [a], _ => exact go _ _ _ _ _ (s91_1 a)
  | [a, b], _ => exact go _ _ _ _ _ (s91_2 a b)
  | [a, b, c], _ => exact go _ _ _ _ _ (s91_3 a b c)
  | [a, b, c, d], _ => exact go _ _ _ _ _ (s91_4 a b c d)
  | [a, b, c, d, e], _ => exact go _ _ _ _ _ (s91_5 a b c d e)
  | _ :: _ :: _ :: _ :: _ :: _ :: _, h => simp at h
theorem law_xs (X : Cx prog w h₁ K fns8 Φ8) (ns : List Int) (hn : ns.length ≤ 63) : ∃ ρ', ∀ (own : List Addr) (A : Around) (s₀ : Shared) (E : Env), Rm A K → E.scope = (rc 9).scope →
    XS prog w h₁ s₀ own E A (bindρ psLaw [.lst (ns.map .int)] fun _ => Option.none) (.ret (.bool true)) ρ' (execs (rc 9).body E) := by
  obtain ⟨ρ', h⟩ := nums_xs X ((ns.take 5).map fun z => z.fmod 1000000) (by simp; omega)
  refine ⟨ρ', fun own A s₀ E rm hE => ?_⟩
  have hE' : E.scope.names = ns9 := by rw [hE]
  rw [b9_eq, s90_eq]
  refine XS.weak (envL_got (law_bind _)) ?_
  refine XS.seq (assign_plain X (n := 20) (d := numsD ((ns.take 5).map fun z => z.fmod 1000000)) rm (by rw [hE']; exact k90 _) ?_) (XS.weak (envL_got (w90 _ _)) (h own A s₀ E rm hE))
  rw [hE']
  have := ev_compF (fns := fns8) (Φ := Φ8) (n := 19) (px := lPx v90) (pos := lP v90) (elt := lE v90) (ifs := []) (fun _ => true) (fun d => match d with | .int i => .int (i.fmod 1000000) | d => d) (o90 (ns.map .int)) ((i90 _).trans (slice5 _ (by simp; omega))) (ds := (ns.map .int).take 5) (by simp [iterD]; omega) (by simp; omega) (fun it hit => rfl) (fun it hit _ => ?_)
  · refine this.trans ?_
    rw [List.filter_eq_self.mpr (fun _ _ => rfl), ← List.map_take, List.map_map]
    unfold numsD
    rw [List.map_map]
    rfl
  · obtain ⟨z, _, rfl⟩ := List.mem_map.mp (List.mem_of_mem_take hit)
    exact x90 _ z
end
noncomputable def Φ9 : Fn := fun g ds => if g = fLaw then (match ds with | [.lst S] => (match ints? S with | some ns => if ns.length ≤ 63 then some (.bool true) else Option.none | Option.none => Option.none) | _ => Option.none) else Φ8 g ds
theorem ints_spec : ∀ {S : List D} {ns : List Int}, ints? S = some ns → S = ns.map .int
  | [], ns, h => by cases h; rfl
  | .int i :: S, ns, h => by
    have h : (match ints? S with | some is => some (i :: is) | Option.none => Option.none) = some ns := h
    split at h
    · rename_i is hi; cases h; rw [ints_spec hi]; rfl
    · cases h
  | .none :: _, _, h => by cases h
  | .bool _ :: _, _, h => by cases h
  | .str _ :: _, _, h => by cases h
  | .tup _ :: _, _, h => by cases h
  | .lst _ :: _, _, h => by cases h
  | .rng _ _ _ :: _, _, h => by cases h
theorem Facts.x9 {mg mb : Str → Option Value} {h₁ : Heap} {prog : Program} {w : World} (F : Facts mg mb h₁) : Cx prog w h₁ 11 (fLaw :: fns8) Φ9 := F.push F.x8 9 (by decide +kernel) (by decide +kernel) bnd9 (Nat.lt_succ_self _) fun ds d h => by
  split at h
  · split at h
    · rename_i ns hns
      split at h
      · rename_i hl
        cases h
        rw [ints_spec hns]
        exact ⟨rfl, law_xs F.x8 ns hl⟩
      · cases h
    · cases h
  · cases h
end Mine
namespace Mine
theorem well_ints {P : Params} {h : Heap} : ∀ {ns : List Int} {vs : List Value}, WellAll P h vs (ofPys (ns.map PyData.int)) → RDs [] h vs (ns.map .int)
  | [], vs, w => by
    rw [List.map_nil, ofPys] at w
    cases w
    exact .nil
  | n :: ns, vs, w => by
    rw [List.map_cons, ofPys, ofPy] at w
    cases w with
    | cons a b =>
      cases a
      exact .cons (.int _ _) (well_ints b)
theorem well_list {P : Params} {h : Heap} {ns : List Int} {a : Addr} (w : Well P h (.ref a) (ofPy (PyData.list (ns.map PyData.int)))) : RD [] h (.ref a) (.lst (ns.map .int)) := by
  rw [ofPy] at w
  cases w with
  | list ho hw => exact .lst ⟨0, ho⟩ (by simp) (RDs.mono (well_ints hw) (by simp) rfl)
theorem law_main {prog : Program} {w : World} {mg mb : Str → Option Value} {s₁ : Shared} (F : Facts mg mb s₁.heap) {fa : Addr} (hfa : mg fLaw = some (.ref fa)) {P : Params} {ns : List Int} {a : Addr} (hn : ns.length ≤ 63)
    (hw : Well P s₁.heap (.ref a) (ofPy (PyData.list (ns.map PyData.int)))) {Q : Value → Shared → Prop} {Err : Value → Shared → Prop} (hQ : ∀ s', Kp s₁ s' → Q (.bool true) s') : wpAny (model prog w) callerA (call (.ref fa) [.ref a]) Q Err s₁ := by
  obtain ⟨fa', o, pm, code, doc, h1, h2, h3, h4⟩ := F.fn _ (rc_mem 9)
  have hname : (rc 9).name = fLaw := by decide +kernel
  rw [hname, hfa] at h1
  cases h1
  have hp : plainDef (rc 9) psLaw = true := by decide +kernel
  simp only [plainDef, Bool.and_eq_true, Bool.not_eq_true', beq_iff_eq, List.all_eq_true, Bool.or_eq_true] at hp
  obtain ⟨ρ', hx⟩ := law_xs (F.x8 (prog := prog) (w := w)) ns hn
  refine def_sound (k := 10) (own := []) (ds := [.lst (ns.map .int)]) F.nolimit h2 h3 h4 hp.2 hp.1.1.1 hp.1.1.2 hp.1.2 (bnd9 pm code doc) ⟨rfl, by decide, by decide⟩ (fun b o e => e) (fun a ha => nomatch ha) rfl (hx []) (.cons (well_list hw) .nil) fun v s' k r => ?_
  cases r
  exact hQ s' k
end Mine
namespace Mine
theorem facts_of {p : Program} {loose : List Str} {mean : ExcName → Option Value} {mg mb : Str → Option Value} {h : Heap} (T : Top p loose mean mg mb h) (hr : recsOf p = recs)
    (hf : (("enumerate" :: bnames).all fun x => !(startupNames.contains (Str.ofString x)) && !(loose.contains (Str.ofString x)) && !((recs.map (·.name)).contains (Str.ofString x)) && !(((litsOf p).map (·.1)).contains (Str.ofString x)) && !(((clssOf p loose).map (·.name)).contains (Str.ofString x)) && Str.ofString x != "__name__") = true) : Facts mg mb h where
  g := T.g
  b := T.b
  nolimit := T.nolimit
  fn := fun d hd => T.fn d (hr ▸ hd)
  free := fun x hx => by
    have := List.all_eq_true.mp hf x hx
    simp only [Bool.and_eq_true, Bool.not_eq_true', List.contains_eq_mem, decide_eq_false_iff_not] at this
    exact T.free _ this.1.1.1.1.1 this.1.1.1.1.2 (hr ▸ this.1.1.1.2) this.1.1.2 this.1.2
  bi := fun x hx => by
    have := List.all_eq_true.mp hf x hx
    simp only [Bool.and_eq_true, bne_iff_ne] at this
    exact T.builtins _ this.2
end Mine
set_option maxRecDepth 100000 in
set_option maxHeartbeats 0 in
theorem PySem.Challenge.cw_pe0045_01_holds : PySem.Challenge.rw_pe0045_01.Holds := by
  w_on; o_law; k_head; (case hw => w_witness2)
  k_fill
  intro w s₀ s₁ mg mb G Y fa o pm cd doc dV kV ho hd hcd hD hmg hg args vals as hpre hlay hrd hwl hlo
  refine Ground.open G ?_
  intro T B D TE TW
  wrow_args hpre hlay hrd hwl hlo
  clear hd D B TE TW Y
  rename_i ns _ _ _ _ _ _ _ a _ _ _ _ hwell _ _ _ hlen _
  refine Mine.law_main (Mine.facts_of T (by kernel_rfl) (by decide +kernel)) hmg (by omega) hwell fun s' k => ?_
  refine ⟨.inl ⟨.bool true, .bool true, [], rfl, fun _ => rfl, ?_, ?_, ?_⟩, .of_keep k.heap, k.os, ?_⟩
  · exact .bool true
  · first | exact postW_of (by rfl) (by rfl) rfl | wrow_post
  · exact fun _ => ⟨List.nodup_nil, fun a ha => nomatch ha⟩
  · obtain ⟨l, e, hl⟩ := k.gens
    rw [hg] at e
    intro y hy
    have hy' : y ∈ s'.gens.toList := by simpa using hy
    rw [e] at hy'
    exact hl y (by simpa using hy')
