import PyProof.Rows.All
import Wide.All
import OpenK.AllK
import Wide.FinOn
import PySem.Challenge.RW_vj0022_01
open PySem PySem.W PyProof.Rows
set_option Elab.async false
set_option maxRecDepth 100000
set_option maxHeartbeats 8000000
namespace Mine
section
local macro_rules | `(tactic| o_head ($f $k $a $p $ts)) => `(tactic| o_head (($f $k $a $p (389 :: $ts) : Hook)))
open_top hd for PySem.Challenge.rw_vj0022_01
end
section
theorem off_Bs : True := by
  w_top off
  exact True.intro
abbrev Led := List (Addr × Obj)
abbrev theProg : Program := PySem.Challenge.rw_vj0022_01.row.prog

/-- what a call does to a ledger -/
def Does (w : World) (kd ku : Nat) (t : Sem Value) (news : Led) (R : Value → Led → Prop) : Prop :=
  ∀ (dp un : Nat) (gd : Option (List Code)) (cn : Str) (cs : Scope) (a : Addr) (ccd : Value) (cl : List (Str × Addr)) (outer : List Env) (A₀ : Around) (base h₀ : Heap) (L : Addr) (m : Str → Option Value) (s : Shared)
    (loose : List Str) (mean : ExcName → Option Value) (mg mb : Str → Option Value) (Q E : Value → Shared → Prop),
    Below A₀ base outer h₀ → Fr h₀ L s.heap m → (hd.heap_39 w.params).In h₀ → News h₀ L s.heap news → Top topProg loose mean mg mb h₀ → cs.kind = .function → dp + kd < 1000 → un + ku < 9900 →
    (∀ r news' h' tk', Fr h₀ L h' m → News h₀ L h' news' → R r news' → Q r { s with heap := h', toks := tk' }) →
    wpAny (model PySem.Challenge.rw_vj0022_01.row.prog w) (ktrTop dp un gd cn cs L a ccd cl outer) t Q E s

theorem Does.use {w : World} {kd ku : Nat} {t : Sem Value} {news : Led} {R : Value → Led → Prop} (C : Does w kd ku t news R)
    {dp un : Nat} {gd : Option (List Code)} {cn : Str} {cs : Scope} {a : Addr} {ccd : Value} {cl : List (Str × Addr)} {outer : List Env} {A₀ : Around} {base h₀ : Heap} {L : Addr} {m : Str → Option Value} {s : Shared}
    {loose : List Str} {mean : ExcName → Option Value} {mg mb : Str → Option Value} {Q E : Value → Shared → Prop}
    (B : Below A₀ base outer h₀) (F : Fr h₀ L s.heap m) (X : (hd.heap_39 w.params).In h₀) (N : News h₀ L s.heap news) (T : Top topProg loose mean mg mb h₀) (hk : cs.kind = .function) (hd : dp + kd < 1000) (hu : un + ku < 9900)
    (h : ∀ r news' h' tk', Fr h₀ L h' m → News h₀ L h' news' → R r news' → Q r { s with heap := h', toks := tk' }) :
    wpAny (model PySem.Challenge.rw_vj0022_01.row.prog w) (ktrTop dp un gd cn cs L a ccd cl outer) t Q E s :=
  C dp un gd cn cs a ccd cl outer A₀ base h₀ L m s loose mean mg mb Q E B F X N T hk hd hu h

theorem ne_of_below {news : Led} {d x : Nat} (h : ∀ p ∈ news, p.1 < d) (hx : d ≤ x) : ∀ p ∈ news, p.1 ≠ x := fun p hp e =>
  Nat.lt_irrefl x (Nat.lt_of_lt_of_le (e ▸ h p hp) hx)
def Stop (p : Prop) : Prop := p
theorem stop {p : Prop} (h : Stop p) : p := h
theorem unstop {p : Prop} (h : p) : Stop p := h
end
section
theorem off_Gm : True := by
  w_top off
  exact True.intro
theorem unr_Gm {a b : Nat} (h : a < b) : a < b := h
local macro_rules | `(tactic| k_room) => `(tactic| ((try simp only [depth_under_make, depth_under_kw, depth_in1, depth_deeper, depth_caller]); (try dsimp only [ktrTop]); (try simp only [recursionLimit]); omega))
local macro_rules | `(tactic| k_units) => `(tactic| ((try simp only [units_in1, units_deeper, Around.mark_units, units_caller]); (try dsimp only [ktrTop]); (try simp only [cLine]); omega))
local macro_rules | `(tactic| k_enter) => `(tactic| (refine' code_def ?k1 ?k2 ?k3 ?k4 ?k5 ?kA ?kF ?kK ?k6 ?k7 ?k8 ?k9 ?kB ?_ ?c2 ?c3 ?c4 ?c5; (case kA => exact rfl); (case kF => exact rfl); (case kK => first | assumption | exact rfl); (case k1 => k_asm); (case k2 => k_asm); (case k3 => k_asm); (case k4 => k_asm); (case k5 => k_asm); (case k6 => k_is); (case k7 => k_is); (case k8 => k_room); (case k9 => first | exact BindsTo.of_eq rfl | exact binds_K (by k_in) rfl (by k_is) rfl rfl rfl | fail "k_enter: no rule for these arguments"); (case c5 => decide); (case kB => exact locs rfl); (case c2 => exact rfl); (case c3 => exact rfl); (case c4 => exact rfl); k_whole; intro g' L' h' FG' F' N' B' X' T'; (try dsimp only); (try k_lift B'); (try k_fold)))
local macro_rules | `(tactic| k_all) => `(tactic| (refine ne_of_below (by assumption) ?_; first | exact Nat.le_refl _ | omega))
local macro_rules | `(tactic| k_mem) => `(tactic| first | exact List.Mem.head _ | (refine List.Mem.tail _ ?_; k_mem) | assumption)
abbrev dT : Value := .type "dict"
abbrev tupO (vs : List Value) (k : Nat) : Obj := { cls := .type "tuple", data := .seq vs.toArray k }

theorem ne_ref (a : Addr) : Value.ref a ≠ dT := by intro e; cases e
theorem ne_tup : Value.type "tuple" ≠ dT := by decide
theorem ne_list : Value.type "list" ≠ dT := by decide

inductive EK where
  | lit (wd : Str)
  | seq (ms : List Addr)
  | one (ms : List Addr)
  | neg (m : Addr)
def EK.kids : EK → List Addr
  | .lit _ => []
  | .seq ms => ms
  | .one ms => ms
  | .neg m => [m]

structure Gram where
  xs : List Addr
  kind : Addr → EK
  dx : Addr → Addr
  text : Str
  den : Addr → Nat → Option Nat
  rk : Addr → Nat → Nat

def seqDen (den : Addr → Nat → Option Nat) : List Addr → Nat → Option Nat
  | [], p => some p
  | m :: r, p => match den m p with
    | none => none
    | some q => seqDen den r q
def seqRk (den : Addr → Nat → Option Nat) (rk : Addr → Nat → Nat) (n : Nat) : List Addr → Nat → Prop
  | [], _ => True
  | m :: r, p => rk m p < n ∧ match den m p with
    | none => True
    | some q => seqRk den rk n r q
def oneDen (den : Addr → Nat → Option Nat) : List Addr → Nat → Option Nat
  | [], _ => none
  | m :: r, p => match den m p with
    | some q => some q
    | none => oneDen den r p
/-- the first of them that matches -/
def oneAt (den : Addr → Nat → Option Nat) : List Addr → Nat → Addr → Prop
  | [], _, _ => False
  | m :: r, p, c => (c = m ∧ (den m p).isSome) ∨ (den m p = none ∧ oneAt den r p c)

structure Gram.Ok (G : Gram) : Prop where
  nodup : G.xs.Nodup
  few : G.xs.length ≤ 100
  tlen : G.text.length ≤ 100
  dxinj : ∀ x ∈ G.xs, ∀ y ∈ G.xs, G.dx x = G.dx y → x = y
  kids : ∀ x ∈ G.xs, ∀ m ∈ (G.kind x).kids, m ∈ G.xs
  bound : ∀ x ∈ G.xs, ∀ p q, p ≤ G.text.length → G.den x p = some q → p ≤ q ∧ q ≤ G.text.length
  rk : ∀ x ∈ G.xs, ∀ p, p ≤ G.text.length → G.rk x p ≤ 60
  eqn : ∀ x ∈ G.xs, ∀ p, p ≤ G.text.length → match G.kind x with
    | .lit wd => wd.length ≤ 100 ∧ G.den x p = if Txt.startswith3 G.text wd p then some (p + wd.length) else none
    | .seq ms => ms ≠ [] ∧ ms.length ≤ 10 ∧ G.den x p = seqDen G.den ms p ∧ seqRk G.den G.rk (G.rk x p) ms p
    | .one ms => ms.length ≤ 10 ∧ G.den x p = oneDen G.den ms p ∧ ∀ m ∈ ms, G.rk m p < G.rk x p
    | .neg m => G.den x p = (match G.den m p with | none => some p | some _ => none) ∧ G.rk m p < G.rk x p

abbrev Short := { s : Str // s.length ≤ 100 }
/-- the expression as it lies in the ledger -/
def ExprAt (G : Gram) (news : Led) (x : Addr) : Prop := match G.kind x with
  | .lit wd => ∃ tw, ∃ nm : Short, ∃ nt idt, (x, (⟨.ref 367, some (G.dx x), .plain, #[some (.str wd tw), some idt, some (.str nm.1 nt)]⟩ : Obj)) ∈ news
  | .seq ms => ∃ t k, ∃ nm : Short, ∃ nt idt, (x, (⟨.ref 425, some (G.dx x), .plain, #[some (.ref t), some idt, some (.str nm.1 nt)]⟩ : Obj)) ∈ news ∧ (t, tupO (ms.map .ref) k) ∈ news
  | .one ms => ∃ t k, ∃ nm : Short, ∃ nt idt, (x, (⟨.ref 451, some (G.dx x), .plain, #[some (.ref t), some idt, some (.str nm.1 nt)]⟩ : Obj)) ∈ news ∧ (t, tupO (ms.map .ref) k) ∈ news
  | .neg m => ∃ t k, ∃ nm : Short, ∃ nt idt, (x, (⟨.ref 489, some (G.dx x), .plain, #[some (.bool true), some (.ref t), some idt, some (.str nm.1 nt)]⟩ : Obj)) ∈ news ∧ (t, tupO [.ref m] k) ∈ news

abbrev Prs := List (Addr × Nat × Addr)
def OidsAt (news : Led) (d : Addr) (prs : Prs) : Prop :=
  (prs = [] ∧ ∃ n, (d, dictOf [] n) ∈ news) ∨
  ∃ hs tk t k n, (d, dictOf [⟨hs, .str (Str.ofString "oids") tk, .ref t⟩] n) ∈ news ∧ (t, tupO (prs.map fun p => .ref p.1) k) ∈ news ∧ ∀ p ∈ prs, ∃ tk k', (p.1, tupO [.int p.2.1 tk, .ref p.2.2] k') ∈ news

/-- the rows that it names lie there -/
def Live (news : Led) (prs : Prs) : Prop := ∀ p ∈ prs, ∃ o, (p.2.2, o) ∈ news ∧ o.cls = dT
theorem Live.of {n n' : Led} {prs : Prs} (h : Live n prs) (s : ∀ z ∈ n, z.2.cls = dT → ∃ o, (z.1, o) ∈ n' ∧ o.cls = dT) : Live n' prs := fun p hp =>
  let ⟨o, a, b⟩ := h p hp; s (p.2.2, o) a b

/-- a match: its error, its cache, the error's dict -/
structure Mt where
  e : Addr
  C : Addr
  de : Addr
  B : Nat
  F : List (Addr × Nat × Addr)
structure Gh where
  Ds : List Addr
  own : Addr → Option Nat
def Gh.mu (G : Gram) (c : Mt) (g : Gh) : List Addr := G.xs.map G.dx ++ c.de :: c.C :: g.Ds

abbrev nodeObj (dx ch : Addr) (x : Addr) (text : Str) (tt : Tok) (p q : Int) (tp tq : Tok) : Obj :=
  { cls := .ref 243, dict := some dx, data := .plain, slots := #[some (.ref ch), some (.int q tq), some (.ref x), some (.str text tt), some (.int p tp)] }
/-- a node of x over p .. q with these children -/
def NodeB (Mu : List Addr) (news : Led) (nd x : Addr) (text : Str) (p q : Int) (items : List Value) : Prop :=
  ∃ dx ch tt tp tq k od, dx ∉ Mu ∧ ch ∉ Mu ∧ (nd, nodeObj dx ch x text tt p q tp tq) ∈ news ∧ (dx, dictOf [] od) ∈ news ∧ (ch, W.listOf items.toArray k) ∈ news

def N0 (G : Gram) (Mu : List Addr) (news : Led) (nd x : Addr) (p q : Nat) : Prop := ∃ items, NodeB Mu news nd x G.text p q items
/-- a sequence's first child too -/
def N1 (G : Gram) (Mu : List Addr) (news : Led) (nd x : Addr) (p q : Nat) : Prop :=
  ∃ items, NodeB Mu news nd x G.text p q items ∧ ∀ l r, G.kind x = .seq (l :: r) → ∃ nl q1 rest, items = .ref nl :: rest ∧ G.den l p = some q1 ∧ N0 G Mu news nl l p q1
/-- a choice's child too -/
def N2 (G : Gram) (Mu : List Addr) (news : Led) (nd x : Addr) (p q : Nat) : Prop :=
  ∃ items, NodeB Mu news nd x G.text p q items ∧ (∀ l r, G.kind x = .seq (l :: r) → ∃ nl q1 rest, items = .ref nl :: rest ∧ G.den l p = some q1 ∧ N0 G Mu news nl l p q1) ∧
    ∀ ms, G.kind x = .one ms → ∃ nc c rest, items = .ref nc :: rest ∧ oneAt G.den ms p c ∧ G.den c p = some q ∧ N1 G Mu news nc c p q
def Res (G : Gram) (Mu : List Addr) (news : Led) (x : Addr) (p : Nat) (v : Value) : Prop := match G.den x p with
  | none => v = .none
  | some q => ∃ nd, v = .ref nd ∧ N2 G Mu news nd x p q

theorem N2.n1 {G : Gram} {Mu : List Addr} {news : Led} {nd x : Addr} {p q : Nat} (h : N2 G Mu news nd x p q) : N1 G Mu news nd x p q :=
  let ⟨i, a, b, _⟩ := h; ⟨i, a, b⟩
theorem N1.n0 {G : Gram} {Mu : List Addr} {news : Led} {nd x : Addr} {p q : Nat} (h : N1 G Mu news nd x p q) : N0 G Mu news nd x p q :=
  let ⟨i, a, _⟩ := h; ⟨i, a⟩

structure Step (Mu Mu' : List Addr) (news news' : Led) : Prop where
  kept : ∀ z ∈ news, (z.2.cls ≠ dT ∨ z.1 ∉ Mu) → z ∈ news'
  dom : ∀ z ∈ news, ∃ o, (z.1, o) ∈ news'
  new : ∀ a ∈ Mu', a ∈ Mu ∨ ∀ z ∈ news, z.1 < a
  sub : ∀ a ∈ Mu, a ∈ Mu'

theorem Step.of_sub {Mu : List Addr} {news news' : Led} (h : ∀ z ∈ news, z ∈ news') : Step Mu Mu news news' :=
  ⟨fun z hz _ => h z hz, fun z hz => ⟨z.2, h z hz⟩, fun _ h => .inl h, fun _ h => h⟩
theorem Step.refl {Mu : List Addr} {news : Led} : Step Mu Mu news news := .of_sub fun _ h => h
theorem Step.trans {M1 M2 M3 : List Addr} {n1 n2 n3 : Led} (a : Step M1 M2 n1 n2) (b : Step M2 M3 n2 n3) : Step M1 M3 n1 n3 where
  kept := fun z hz h => b.kept z (a.kept z hz h) (h.imp id fun hn hm => (a.new z.1 hm).elim hn fun hl => Nat.lt_irrefl _ (hl z hz))
  dom := fun z hz => let ⟨o, ho⟩ := a.dom z hz; b.dom (z.1, o) ho
  new := fun c hc => (b.new c hc).elim (fun h => a.new c h) fun h => .inr fun z hz => let ⟨o, ho⟩ := a.dom z hz; h (z.1, o) ho
  sub := fun c hc => b.sub c (a.sub c hc)

theorem NodeB.step {Mu Mu' Z : List Addr} {news news' : Led} {nd x : Addr} {text : Str} {p q : Int} {items : List Value} (h : NodeB (Mu ++ Z) news nd x text p q items) (s : Step Mu Mu' news news') : NodeB (Mu' ++ Z) news' nd x text p q items := by
  obtain ⟨dx, ch, tt, tp, tq, k, od, hn, hn', h1, h2, h3⟩ := h
  have old : ∀ {a : Addr} {o : Obj}, a ∉ Mu ++ Z → (a, o) ∈ news → a ∉ Mu' ++ Z := fun hn h2 hm => by
    rcases List.mem_append.mp hm with hm | hm
    · exact (s.new _ hm).elim (fun q => hn (List.mem_append_left _ q)) fun hl => Nat.lt_irrefl _ (hl _ h2)
    · exact hn (List.mem_append_right _ hm)
  exact ⟨dx, ch, tt, tp, tq, k, od, old hn h2, old hn' h3, s.kept _ h1 (.inl (ne_ref _)), s.kept _ h2 (.inr fun q => hn (List.mem_append_left _ q)), s.kept _ h3 (.inl ne_list)⟩
theorem NodeB.wide {Mu Mu' : List Addr} {news : Led} {nd x : Addr} {text : Str} {p q : Int} {items : List Value} (h : NodeB Mu news nd x text p q items) (s : ∀ a ∈ Mu', a ∈ Mu ∨ ∀ z ∈ news, z.1 < a) : NodeB Mu' news nd x text p q items := by
  obtain ⟨dx, ch, tt, tp, tq, k, od, hn, hn', h1, h2, h3⟩ := h
  exact ⟨dx, ch, tt, tp, tq, k, od, fun hm => (s _ hm).elim hn fun hl => Nat.lt_irrefl _ (hl _ h2), fun hm => (s _ hm).elim hn' fun hl => Nat.lt_irrefl _ (hl _ h3), h1, h2, h3⟩
section
variable {G : Gram} {M1 M2 : List Addr} {l1 l2 : Led} {nd x : Addr} {p q : Nat}
theorem N0.map (f : ∀ nd x p q items, NodeB M1 l1 nd x G.text p q items → NodeB M2 l2 nd x G.text p q items) (h : N0 G M1 l1 nd x p q) : N0 G M2 l2 nd x p q :=
  let ⟨i, a⟩ := h; ⟨i, f _ _ _ _ _ a⟩
theorem N1.map (f : ∀ nd x p q items, NodeB M1 l1 nd x G.text p q items → NodeB M2 l2 nd x G.text p q items) (h : N1 G M1 l1 nd x p q) : N1 G M2 l2 nd x p q :=
  let ⟨i, a, b⟩ := h; ⟨i, f _ _ _ _ _ a, fun l r e => let ⟨nl, q1, rest, e1, e2, e3⟩ := b l r e; ⟨nl, q1, rest, e1, e2, e3.map f⟩⟩
theorem N2.map (f : ∀ nd x p q items, NodeB M1 l1 nd x G.text p q items → NodeB M2 l2 nd x G.text p q items) (h : N2 G M1 l1 nd x p q) : N2 G M2 l2 nd x p q :=
  let ⟨i, a, b, c⟩ := h; ⟨i, f _ _ _ _ _ a, fun l r e => let ⟨nl, q1, rest, e1, e2, e3⟩ := b l r e; ⟨nl, q1, rest, e1, e2, e3.map f⟩,
    fun ms e => let ⟨nc, d, rest, e1, e2, e3, e4⟩ := c ms e; ⟨nc, d, rest, e1, e2, e3, e4.map f⟩⟩
theorem Res.map {v : Value} (f : ∀ nd x p q items, NodeB M1 l1 nd x G.text p q items → NodeB M2 l2 nd x G.text p q items) (h : Res G M1 l1 x p v) : Res G M2 l2 x p v := by
  unfold Res at h ⊢
  cases e : G.den x p with
  | none => rw [e] at h; exact h
  | some q => rw [e] at h; obtain ⟨nd, h1, h2⟩ := h; exact ⟨nd, h1, h2.map f⟩
end
theorem Res.step {G : Gram} {Mu Mu' Z : List Addr} {news news' : Led} {x : Addr} {p : Nat} {v : Value} (h : Res G (Mu ++ Z) news x p v) (s : Step Mu Mu' news news') : Res G (Mu' ++ Z) news' x p v := h.map fun _ _ _ _ _ a => a.step s
theorem N0.step {G : Gram} {Mu Mu' Z : List Addr} {news news' : Led} {nd x : Addr} {p q : Nat} (h : N0 G (Mu ++ Z) news nd x p q) (s : Step Mu Mu' news news') : N0 G (Mu' ++ Z) news' nd x p q := h.map fun _ _ _ _ _ a => a.step s

/-- the error object: what of it is asked -/
def ErrAt (G : Gram) (news : Led) (e de : Addr) : Prop :=
  ∃ args text tt pos tp ex h1 h2 h3 k1 k2 k3 n, (e, ({ cls := .ref 87, dict := some de, data := .fields #[.ref args, .none, .none, .none, .bool false, .none] } : Obj)) ∈ news ∧
    (de, dictOf [⟨h1, .str (Str.ofString "text") k1, .str text tt⟩, ⟨h2, .str (Str.ofString "pos") k2, .int pos tp⟩, ⟨h3, .str (Str.ofString "expr") k3, ex⟩] n) ∈ news ∧
    (ex = .none ∨ ∃ y ∈ G.xs, ex = .ref y)

structure Inv (w : World) (G : Gram) (c : Mt) (P : List (Addr × Nat)) (Z : List Addr) (g : Gh) (news : Led) : Prop where
  expr : ∀ x ∈ G.xs, ExprAt G news x
  oids : ∀ x ∈ G.xs, ∃ prs : Prs, OidsAt news (G.dx x) prs ∧ (match g.own x with
    | some j => ∃ a D rest, prs = (a, j, D) :: rest ∧ g.Ds[j]? = some D ∧ (∀ p ∈ rest, p.2.2 < c.C) ∧ rest.length ≤ c.B
    | none => (∀ p ∈ prs, p.2.2 < c.C) ∧ prs.length ≤ c.B ∧ c.B ≤ 900) ∧ Live news prs
  cache : ∃ o kvs, (c.C, o) ∈ news ∧ o.IsDictOf (intKind theProg w) kvs ∧ kvs.length = g.Ds.length ∧ ∀ k : Nat, valueAt kvs (k : Int) = (g.Ds[k]?).map .ref
  cne : (c.C == sysModules) = false
  rows : ∀ x ∈ G.xs, ∀ j, g.own x = some j → ∃ D o kvs, g.Ds[j]? = some D ∧ (D, o) ∈ news ∧ o.IsDictOf (intKind theProg w) kvs ∧ (D == sysModules) = false ∧
    ∀ kv ∈ kvs, ∃ p : Nat, kv.1 = (p : Int) ∧ p ≤ G.text.length ∧ ((kv.2 = .ref 251 ∧ (x, p) ∈ P) ∨ Res G (g.mu G c ++ Z) news x p kv.2)
  owninj : ∀ x ∈ G.xs, ∀ y ∈ G.xs, ∀ j, g.own x = some j → g.own y = some j → x = y
  cnt : g.Ds.length = (G.xs.filter fun x => (g.own x).isSome).length
  dxlt : ∀ x ∈ G.xs, G.dx x < c.de
  delt : c.de < c.C
  dlt : ∀ D ∈ g.Ds, c.C < D
  dnd : g.Ds.Nodup
  dsd : ∀ D ∈ g.Ds, ∃ o, (D, o) ∈ news ∧ o.cls = dT
  zin : ∀ a ∈ Z, ∃ o, (a, o) ∈ news
  err : ErrAt G news c.e c.de
  pin : ∀ t ∈ c.F, g.own t.1 = some t.2.1 ∧ g.Ds[t.2.1]? = some t.2.2

/-- the kinds of objects that are asked of -/
def Asked (o : Obj) : Prop := o.cls = dT ∨ o.cls = .type "tuple" ∨ o.cls = .type "list" ∨ ∃ a, o.cls = .ref a
abbrev lT : Value := .type "list"
theorem tup_nl : Value.type "tuple" ≠ lT := by decide
theorem dict_nl : dT ≠ lT := by decide
theorem NodeB.asked {Mu Z : List Addr} {news news' : Led} {nd x : Addr} {text : Str} {p q : Int} {items : List Value} (h : NodeB (Mu ++ Z) news nd x text p q items) (s : ∀ z ∈ news, Asked z.2 → (z.2.cls = lT → z.1 ∉ Z) → z ∈ news') : NodeB (Mu ++ Z) news' nd x text p q items := by
  obtain ⟨dx, ch, tt, tp, tq, k, od, hn, hn', h1, h2, h3⟩ := h
  exact ⟨dx, ch, tt, tp, tq, k, od, hn, hn', s _ h1 (.inr (.inr (.inr ⟨_, rfl⟩))) (fun e => by cases e), s _ h2 (.inl rfl) (fun e => absurd e dict_nl), s _ h3 (.inr (.inr (.inl rfl))) fun _ q => hn' (List.mem_append_right _ q)⟩
theorem ExprAt.asked {G : Gram} {news news' : Led} {x : Addr} (h : ExprAt G news x) (s : ∀ z ∈ news, Asked z.2 → z.2.cls ≠ lT → z ∈ news') : ExprAt G news' x := by
  unfold ExprAt at h ⊢
  split <;> rename_i hk <;> rw [hk] at h <;> dsimp only at h
  · obtain ⟨tw, nm, nt, idt, h1⟩ := h
    exact ⟨tw, nm, nt, idt, s _ h1 (.inr (.inr (.inr ⟨_, rfl⟩))) (by intro e; cases e)⟩
  · obtain ⟨t, k, nm, nt, idt, h1, h2⟩ := h
    exact ⟨t, k, nm, nt, idt, s _ h1 (.inr (.inr (.inr ⟨_, rfl⟩))) (by intro e; cases e), s _ h2 (.inr (.inl rfl)) tup_nl⟩
  · obtain ⟨t, k, nm, nt, idt, h1, h2⟩ := h
    exact ⟨t, k, nm, nt, idt, s _ h1 (.inr (.inr (.inr ⟨_, rfl⟩))) (by intro e; cases e), s _ h2 (.inr (.inl rfl)) tup_nl⟩
  · obtain ⟨t, k, nm, nt, idt, h1, h2⟩ := h
    exact ⟨t, k, nm, nt, idt, s _ h1 (.inr (.inr (.inr ⟨_, rfl⟩))) (by intro e; cases e), s _ h2 (.inr (.inl rfl)) tup_nl⟩
theorem OidsAt.asked {news news' : Led} {d : Addr} {prs : Prs} (h : OidsAt news d prs) (s : ∀ z ∈ news, Asked z.2 → z.2.cls ≠ lT → z ∈ news') : OidsAt news' d prs := by
  rcases h with ⟨e, n, h1⟩ | ⟨hs, tk, t, k, n, h1, h2, h3⟩
  · exact .inl ⟨e, n, s _ h1 (.inl rfl) dict_nl⟩
  · exact .inr ⟨hs, tk, t, k, n, s _ h1 (.inl rfl) dict_nl, s _ h2 (.inr (.inl rfl)) tup_nl, fun p hp => let ⟨tk', k', h4⟩ := h3 p hp; ⟨tk', k', s _ h4 (.inr (.inl rfl)) tup_nl⟩⟩
theorem ErrAt.asked {G : Gram} {news news' : Led} {e de : Addr} (h : ErrAt G news e de) (s : ∀ z ∈ news, Asked z.2 → z.2.cls ≠ lT → z ∈ news') : ErrAt G news' e de := by
  obtain ⟨args, text, tt, pos, tp, ex, h1, h2, h3, k1, k2, k3, n, a, b, c⟩ := h
  exact ⟨args, text, tt, pos, tp, ex, h1, h2, h3, k1, k2, k3, n, s _ a (.inr (.inr (.inr ⟨_, rfl⟩))) (by intro e; cases e), s _ b (.inl rfl) dict_nl, c⟩
theorem dict_cls {w : World} {o : Obj} {kvs : List (Int × Value)} (h : o.IsDictOf (intKind theProg w) kvs) : o.cls = dT := by
  obtain ⟨es, ep, he, _⟩ := h
  exact he.1
/-- a ledger that bears all that is asked: nothing turns -/
theorem Inv.asked {w : World} {G : Gram} {c : Mt} {P : List (Addr × Nat)} {Z : List Addr} {g : Gh} {news news' : Led} (h : Inv w G c P Z g news) (s : ∀ z ∈ news, Asked z.2 → (z.2.cls = lT → z.1 ∉ Z) → z ∈ news') (hz : ∀ a ∈ Z, ∃ o, (a, o) ∈ news') : Inv w G c P Z g news' where
  expr := fun x hx => (h.expr x hx).asked fun z hz ha hl => s z hz ha fun e => absurd e hl
  oids := fun x hx => let ⟨prs, a, b⟩ := h.oids x hx; ⟨prs, a.asked (fun z hz ha hl => s z hz ha fun e => absurd e hl), b.1, b.2.of fun z hz hc => ⟨_, s z hz (.inl hc) (fun e => absurd (hc.symm.trans e) dict_nl), hc⟩⟩
  cache := let ⟨o, kvs, a, b⟩ := h.cache; ⟨o, kvs, s _ a (.inl (dict_cls b.1)) (fun e => absurd ((dict_cls b.1).symm.trans e) dict_nl), b⟩
  cne := h.cne
  rows := fun x hx j hj => let ⟨D, o, kvs, a, b, c, d, f⟩ := h.rows x hx j hj
    ⟨D, o, kvs, a, s _ b (.inl (dict_cls c)) (fun e => absurd ((dict_cls c).symm.trans e) dict_nl), c, d, fun kv hkv => let ⟨p, p1, p2, p3⟩ := f kv hkv; ⟨p, p1, p2, p3.imp id fun r => r.map fun _ _ _ _ _ n => n.asked s⟩⟩
  owninj := h.owninj
  cnt := h.cnt
  dxlt := h.dxlt
  delt := h.delt
  dlt := h.dlt
  dnd := h.dnd
  dsd := fun D hD => let ⟨o, a, b⟩ := h.dsd D hD; ⟨o, s _ a (.inl b) (fun e => absurd (b.symm.trans e) dict_nl), b⟩
  zin := hz
  err := h.err.asked fun z hz ha hl => s z hz ha fun e => absurd e hl
  pin := h.pin
/-- more objects: nothing turns -/
theorem Inv.mono {w : World} {G : Gram} {c : Mt} {P : List (Addr × Nat)} {Z : List Addr} {g : Gh} {news news' : Led} (h : Inv w G c P Z g news) (s : ∀ z ∈ news, z ∈ news') : Inv w G c P Z g news' :=
  h.asked (fun z hz _ _ => s z hz) (fun a ha => let ⟨o, x⟩ := h.zin a ha; ⟨o, s _ x⟩)
/-- one more address that no node may use -/
theorem Inv.more {w : World} {G : Gram} {c : Mt} {P : List (Addr × Nat)} {Z : List Addr} {g : Gh} {news : Led} {a : Addr} {o : Obj} (h : Inv w G c P Z g news) (ha : ∀ z ∈ news, z.1 < a) : Inv w G c P (a :: Z) g ((a, o) :: news) := by
  have r : ∀ x ∈ G.xs, ∀ j, g.own x = some j → ∃ D o kvs, g.Ds[j]? = some D ∧ (D, o) ∈ news ∧ o.IsDictOf (intKind theProg w) kvs ∧ (D == sysModules) = false ∧
      ∀ kv ∈ kvs, ∃ p : Nat, kv.1 = (p : Int) ∧ p ≤ G.text.length ∧ ((kv.2 = .ref 251 ∧ (x, p) ∈ P) ∨ Res G (g.mu G c ++ (a :: Z)) news x p kv.2) := fun x hx j hj =>
    let ⟨D, o, kvs, a1, b, c1, d, f⟩ := h.rows x hx j hj
    ⟨D, o, kvs, a1, b, c1, d, fun kv hkv => let ⟨p, p1, p2, p3⟩ := f kv hkv; ⟨p, p1, p2, p3.imp id fun r => r.map fun _ _ _ _ _ n => n.wide fun b hb => by
      rcases List.mem_append.mp hb with hb | hb
      · exact .inl (List.mem_append_left _ hb)
      · rcases List.mem_cons.mp hb with rfl | hb
        · exact .inr ha
        · exact .inl (List.mem_append_right _ hb)⟩⟩
  have m := h.mono (news' := (a, o) :: news) fun z hz => .tail _ hz
  exact { m with
    rows := fun x hx j hj => let ⟨D, o, kvs, a1, b, c1, d, f⟩ := r x hx j hj
      ⟨D, o, kvs, a1, .tail _ b, c1, d, fun kv hkv => let ⟨p, p1, p2, p3⟩ := f kv hkv; ⟨p, p1, p2, p3.imp id fun r => r.map fun _ _ _ _ _ n => n.asked fun z hz _ _ => .tail _ hz⟩⟩
    zin := fun b hb => by
      rcases List.mem_cons.mp hb with rfl | hb
      · exact ⟨o, .head _⟩
      · exact m.zin b hb }
/-- one such address less -/
theorem Inv.less {w : World} {G : Gram} {c : Mt} {P : List (Addr × Nat)} {Z : List Addr} {g : Gh} {news : Led} {a : Addr} (h : Inv w G c P (a :: Z) g news) : Inv w G c P Z g news :=
  { h with
    rows := fun x hx j hj => let ⟨D, o, kvs, a1, b, c1, d, f⟩ := h.rows x hx j hj
      ⟨D, o, kvs, a1, b, c1, d, fun kv hkv => let ⟨p, p1, p2, p3⟩ := f kv hkv; ⟨p, p1, p2, p3.imp id fun r => r.map fun _ _ _ _ _ n => n.wide fun b hb => .inl (by
        rcases List.mem_append.mp hb with hb | hb
        · exact List.mem_append_left _ hb
        · exact List.mem_append_right _ (.tail _ hb))⟩⟩
    zin := fun b hb => h.zin b (.tail _ hb) }
theorem Res.less {G : Gram} {Mu Z : List Addr} {a : Addr} {news : Led} {x : Addr} {p : Nat} {v : Value} (h : Res G (Mu ++ a :: Z) news x p v) : Res G (Mu ++ Z) news x p v := h.map fun _ _ _ _ _ n => n.wide fun b hb => .inl (by
  rcases List.mem_append.mp hb with hb | hb
  · exact List.mem_append_left _ hb
  · exact List.mem_append_right _ (.tail _ hb))
def Mt.hold (c : Mt) (x : Addr) (j : Nat) (D : Addr) : Mt := { c with F := (x, j, D) :: c.F }
theorem Inv.hold {w : World} {G : Gram} {c : Mt} {P : List (Addr × Nat)} {Z : List Addr} {g : Gh} {news : Led} {x : Addr} {j : Nat} {D : Addr} (h : Inv w G c P Z g news) (h1 : g.own x = some j) (h2 : g.Ds[j]? = some D) : Inv w G (c.hold x j D) P Z g news where
  expr := h.expr
  oids := h.oids
  cache := h.cache
  cne := h.cne
  rows := h.rows
  owninj := h.owninj
  cnt := h.cnt
  dxlt := h.dxlt
  delt := h.delt
  dlt := h.dlt
  dnd := h.dnd
  dsd := h.dsd
  zin := h.zin
  err := h.err
  pin := fun t ht => (List.mem_cons.mp ht).elim (fun e => e ▸ ⟨h1, h2⟩) (h.pin t)
theorem Inv.loose {w : World} {G : Gram} {c : Mt} {P : List (Addr × Nat)} {Z : List Addr} {g : Gh} {news : Led} {x : Addr} {j : Nat} {D : Addr} (h : Inv w G (c.hold x j D) P Z g news) : Inv w G c P Z g news where
  expr := h.expr
  oids := h.oids
  cache := h.cache
  cne := h.cne
  rows := h.rows
  owninj := h.owninj
  cnt := h.cnt
  dxlt := h.dxlt
  delt := h.delt
  dlt := h.dlt
  dnd := h.dnd
  dsd := h.dsd
  zin := h.zin
  err := h.err
  pin := fun t ht => h.pin t (.tail _ ht)
end
section
theorem off_Ge : True := by
  w_top off
  exact True.intro
theorem unr_Ge {a b : Nat} (h : a < b) : a < b := h
local macro_rules | `(tactic| k_room) => `(tactic| ((try simp only [depth_under_make, depth_under_kw, depth_in1, depth_deeper, depth_caller]); (try dsimp only [ktrTop]); (try simp only [recursionLimit]); omega))
local macro_rules | `(tactic| k_units) => `(tactic| ((try simp only [units_in1, units_deeper, Around.mark_units, units_caller]); (try dsimp only [ktrTop]); (try simp only [cLine]); omega))
local macro_rules | `(tactic| k_enter) => `(tactic| (refine' code_def ?k1 ?k2 ?k3 ?k4 ?k5 ?kA ?kF ?kK ?k6 ?k7 ?k8 ?k9 ?kB ?_ ?c2 ?c3 ?c4 ?c5; (case kA => exact rfl); (case kF => exact rfl); (case kK => first | assumption | exact rfl); (case k1 => k_asm); (case k2 => k_asm); (case k3 => k_asm); (case k4 => k_asm); (case k5 => k_asm); (case k6 => k_is); (case k7 => k_is); (case k8 => k_room); (case k9 => first | exact BindsTo.of_eq rfl | exact binds_K (by k_in) rfl (by k_is) rfl rfl rfl | fail "k_enter: no rule for these arguments"); (case c5 => decide); (case kB => exact locs rfl); (case c2 => exact rfl); (case c3 => exact rfl); (case c4 => exact rfl); k_whole; intro g' L' h' FG' F' N' B' X' T'; (try dsimp only); (try k_lift B'); (try k_fold)))
local macro_rules | `(tactic| k_all) => `(tactic| (refine ne_of_below (by assumption) ?_; first | exact Nat.le_refl _ | omega))
local macro_rules | `(tactic| k_mem) => `(tactic| first | exact List.Mem.head _ | (refine List.Mem.tail _ ?_; k_mem) | assumption)
/-- what the tables grew by: the old heap stands as code tables may grow -/
theorem tab_old {tabs : List (Addr × Addr)} {h h' : Heap} (hT : TabsAt tabs h) (hk : ∀ b o, (ghostOf h tabs).get? b = some o → h'.get? b = some o) (hg : GrownAll tabs h') : OldK h h' := by
  have key : ∀ b o, h.get? b = some o → h'.get? b = some o ∨ (isCodeTable h b ∧ o = tabObj #[] ∧ ∃ ps, h'.get? b = some (tabObj ps)) := by
    intro b o e
    by_cases m : b ∈ tabs.map Prod.snd
    · obtain ⟨q, hq, e1⟩ := List.mem_map.mp m
      subst e1
      obtain ⟨c1, c2⟩ := hT q hq
      exact .inr ⟨(c1.tab c2).isCodeTable, Option.some.inj (e.symm.trans c2), hg.get q hq⟩
    · exact .inl (hk b o (ghost_ne e m))
  refine { old := fun b o e => ?_, there := fun b o e => ?_ }
  · rcases key b o e with k | ⟨k1, k2, ps, k3⟩
    · exact .inl k
    · refine .inr (.inl ⟨k1, ?_⟩)
      subst k2
      exact ⟨rfl, #[], ps, rfl, by simpa using k3⟩
  · rcases key b o e with k | ⟨_, _, ps, k3⟩
    · exact ⟨o, k⟩
    · exact ⟨_, k3⟩
/-- the law's end behind tables laid aside, where generators may have run -/
theorem law_post {M : Model} {A : Around} {cd : Code} {s s₁ : Shared} {cw : ClaimW} {cl : Str → Option Addr} {mean : ExcName → Option Value} {args : List WData} {tabs : List (Addr × Addr)} (hT : TabsAt tabs s₁.heap) (hr : ∀ a x, cw.raises a x = false)
    (h : codeAny M A cd (fun r s' => GoodWG cw cl mean args { s₁ with heap := ghostOf s₁.heap tabs } r s' ∧ (r = .ok (.ret (.bool true)) ∧ cw.post args (.bool true) args = true) ∧ (∀ b o, (ghostOf s₁.heap tabs).get? b = some o → s'.heap.get? b = some o) ∧ GrownAll tabs s'.heap) s) : codeAny M A cd (GoodWG cw cl mean args s₁) s := by
  refine codeAny_mono h fun r s' q => ?_
  obtain ⟨⟨_, _, ho, hg⟩, ⟨e, hp⟩, hk, hgr⟩ := q
  subst e
  exact ⟨.inl ⟨_, .bool true, [], rfl, hr args, ReadsW.bool true, hp, fun _ => ⟨List.nodup_nil, fun _ m => nomatch m⟩⟩, tab_old hT hk hgr, ho, hg⟩
theorem law_end {c : ClaimW} {cl : Str → Option Addr} {mean : ExcName → Option Value} {args : List WData} {hG h : Heap} {g0 gs : Array GenState} {d0 d : Drawn} {t0 t : Nat} {os : OsState} {L : Addr} {m : Str → Option Value} {b : Bool} {R : Prop} (F : Fr hG L h m) (hg : AllBare gs) (hR : R) (hb : b = true) (hn : ∀ cls, c.raises args cls = false) (hp : c.post args (.bool true) args = true) :
    GoodWG c cl mean args { heap := hG, gens := g0, drawn := d0, toks := t0, os := os } (.ok (.ret (.bool b))) { heap := h, gens := gs, drawn := d, toks := t, os := os } ∧
      ((Except.ok (Flow.ret (Value.bool b)) : Result) = .ok (.ret (.bool true)) ∧ c.post args (.bool true) args = true) ∧ (∀ b o, hG.get? b = some o → h.get? b = some o) ∧ R := by
  subst hb
  exact ⟨⟨.inl ⟨_, _, [], rfl, hn, ReadsW.bool true, hp, fun _ => ⟨List.nodup_nil, fun _ m => nomatch m⟩⟩, .of_keep F.keep, rfl, hg⟩, ⟨rfl, hp⟩, F.keep, hR⟩
end
section
theorem off_Rd : True := by
  w_top off
  exact True.intro
theorem unr_Rd {a b : Nat} (h : a < b) : a < b := h
local macro_rules | `(tactic| k_room) => `(tactic| ((try simp only [depth_under_make, depth_under_kw, depth_in1, depth_deeper, depth_caller]); (try dsimp only [ktrTop]); (try simp only [recursionLimit]); omega))
local macro_rules | `(tactic| k_units) => `(tactic| ((try simp only [units_in1, units_deeper, Around.mark_units, units_caller]); (try dsimp only [ktrTop]); (try simp only [cLine]); omega))
local macro_rules | `(tactic| k_enter) => `(tactic| (refine' code_def ?k1 ?k2 ?k3 ?k4 ?k5 ?kA ?kF ?kK ?k6 ?k7 ?k8 ?k9 ?kB ?_ ?c2 ?c3 ?c4 ?c5; (case kA => exact rfl); (case kF => exact rfl); (case kK => first | assumption | exact rfl); (case k1 => k_asm); (case k2 => k_asm); (case k3 => k_asm); (case k4 => k_asm); (case k5 => k_asm); (case k6 => k_is); (case k7 => k_is); (case k8 => k_room); (case k9 => first | exact BindsTo.of_eq rfl | exact binds_K (by k_in) rfl (by k_is) rfl rfl rfl | fail "k_enter: no rule for these arguments"); (case c5 => decide); (case kB => exact locs rfl); (case c2 => exact rfl); (case c3 => exact rfl); (case c4 => exact rfl); k_whole; intro g' L' h' FG' F' N' B' X' T'; (try dsimp only); (try k_lift B'); (try k_fold)))
local macro_rules | `(tactic| k_all) => `(tactic| (refine ne_of_below (by assumption) ?_; first | exact Nat.le_refl _ | omega))
local macro_rules | `(tactic| k_mem) => `(tactic| first | exact List.Mem.head _ | (refine List.Mem.tail _ ?_; k_mem) | assumption)
section
variable {w : World} {A : Around} {E : Value → Shared → Prop} {s : Shared} {h₀ : Heap} {L : Addr} {m : Str → Option Value} {news : Led} {G : Gram} {x : Addr} {prs : Prs}
local macro_rules | `(tactic| walk_at "my method") => `(tactic| (k_dflt (refine' method_inst ?k1 ?k2 ?k3 ?k4 ?k5 ?k6 ?k7 ?_; (case k1 => assumption); (case k2 => assumption); (case k3 => k_inst); (case k4 => k_is); (case k5 => k_is); (case k6 => k_is); (case k7 => k_get); k_whole)))
local macro_rules | `(tactic| walk_at "my slot") => `(tactic| (k_dflt (refine' get_slot ?k1 ?k2 ?k3 ?k4 ?k5 ?k6 ?k7 ?k8 ?k9 ?k10 ?k11 ?_; (case k1 => assumption); (case k2 => assumption); (case k3 => k_inst); (case k4 => k_is); (case k5 => k_is); (case k6 => k_is); (case k7 => k_is); (case k8 => k_is); (case k9 => k_is); (case k10 => k_slotget); (case k11 => k_handed); k_whole)))
theorem mc_method {pl : Sem Bool} {Q : Value × List Value → Shared → Prop} (X : (hd.heap_39 w.params).In h₀) (F : Fr h₀ L s.heap m) (N : News h₀ L s.heap news) (hE : ExprAt G news x) (hO : OidsAt news (G.dx x) prs)
    (h : Q (.ref 297, [.ref x]) s) : wpAny (model PySem.Challenge.rw_vj0022_01.row.prog w) A (getMethod (.ref x) (Str.ofString "match_core") pl) Q E s := by
  revert X; k_fill; intro X
  unfold ExprAt at hE
  split at hE
  · obtain ⟨tw, nm, nt, idt, hE⟩ := hE
    rcases hO with ⟨_, n, hO⟩ | ⟨hs, tk, t, k, n, hO, _, _⟩ <;> (walk_at "my method"; exact h)
  · obtain ⟨t, k, nm, nt, idt, hE, _⟩ := hE
    rcases hO with ⟨_, n, hO⟩ | ⟨hs, tk, t, k, n, hO, _, _⟩ <;> (walk_at "my method"; exact h)
  · obtain ⟨t, k, nm, nt, idt, hE, _⟩ := hE
    rcases hO with ⟨_, n, hO⟩ | ⟨hs, tk, t, k, n, hO, _, _⟩ <;> (walk_at "my method"; exact h)
  · obtain ⟨t, k, nm, nt, idt, hE, _⟩ := hE
    rcases hO with ⟨_, n, hO⟩ | ⟨hs, tk, t, k, n, hO, _, _⟩ <;> (walk_at "my method"; exact h)
def umOf : EK → Addr
  | .lit _ => 356
  | .seq _ => 415
  | .one _ => 441
  | .neg _ => 478
theorem um_method {pl : Sem Bool} {Q : Value × List Value → Shared → Prop} (X : (hd.heap_39 w.params).In h₀) (F : Fr h₀ L s.heap m) (N : News h₀ L s.heap news) (hE : ExprAt G news x) (hO : OidsAt news (G.dx x) prs)
    (h : Q (.ref (umOf (G.kind x)), [.ref x]) s) : wpAny (model PySem.Challenge.rw_vj0022_01.row.prog w) A (getMethod (.ref x) (Str.ofString "_uncached_match") pl) Q E s := by
  revert X; k_fill; intro X
  unfold ExprAt at hE
  split at hE <;> rename_i hk <;> rw [hk] at h <;> dsimp only [umOf] at h
  · obtain ⟨tw, nm, nt, idt, hE⟩ := hE
    rcases hO with ⟨_, n, hO⟩ | ⟨hs, tk, t, k, n, hO, _, _⟩ <;> (walk_at "my method"; exact h)
  · obtain ⟨t, k, nm, nt, idt, hE, _⟩ := hE
    rcases hO with ⟨_, n, hO⟩ | ⟨hs, tk, t, k, n, hO, _, _⟩ <;> (walk_at "my method"; exact h)
  · obtain ⟨t, k, nm, nt, idt, hE, _⟩ := hE
    rcases hO with ⟨_, n, hO⟩ | ⟨hs, tk, t, k, n, hO, _, _⟩ <;> (walk_at "my method"; exact h)
  · obtain ⟨t, k, nm, nt, idt, hE, _⟩ := hE
    rcases hO with ⟨_, n, hO⟩ | ⟨hs, tk, t, k, n, hO, _, _⟩ <;> (walk_at "my method"; exact h)
theorem name_get {ex : Bool} {Q : Value → Shared → Prop} (X : (hd.heap_39 w.params).In h₀) (F : Fr h₀ L s.heap m) (N : News h₀ L s.heap news) (hE : ExprAt G news x) (hO : OidsAt news (G.dx x) prs)
    (h : ∀ (nm : Short) nt, Q (.str nm.1 nt) { s with toks := s.toks + 1 }) : wpAny (model PySem.Challenge.rw_vj0022_01.row.prog w) A (getAttr (.ref x) (Str.ofString "name") ex) Q E s := by
  revert X; k_fill; intro X
  unfold ExprAt at hE
  split at hE
  · obtain ⟨tw, nm, nt, idt, hE⟩ := hE
    rcases hO with ⟨_, n, hO⟩ | ⟨hs, tk, t, k, n, hO, _, _⟩ <;> (walk_at "my slot"; exact h _ _)
  · obtain ⟨t, k, nm, nt, idt, hE, _⟩ := hE
    rcases hO with ⟨_, n, hO⟩ | ⟨hs, tk, t, k, n, hO, _, _⟩ <;> (walk_at "my slot"; exact h _ _)
  · obtain ⟨t, k, nm, nt, idt, hE, _⟩ := hE
    rcases hO with ⟨_, n, hO⟩ | ⟨hs, tk, t, k, n, hO, _, _⟩ <;> (walk_at "my slot"; exact h _ _)
  · obtain ⟨t, k, nm, nt, idt, hE, _⟩ := hE
    rcases hO with ⟨_, n, hO⟩ | ⟨hs, tk, t, k, n, hO, _, _⟩ <;> (walk_at "my slot"; exact h _ _)
end
end
section
theorem off_M0 : True := by
  w_top off
  exact True.intro
theorem unr_M0 {a b : Nat} (h : a < b) : a < b := h
local macro_rules | `(tactic| k_room) => `(tactic| ((try simp only [depth_under_make, depth_under_kw, depth_in1, depth_deeper, depth_caller]); (try dsimp only [ktrTop]); (try simp only [recursionLimit]); omega))
local macro_rules | `(tactic| k_units) => `(tactic| ((try simp only [units_in1, units_deeper, Around.mark_units, units_caller]); (try dsimp only [ktrTop]); (try simp only [cLine]); omega))
local macro_rules | `(tactic| k_enter) => `(tactic| (refine' code_def ?k1 ?k2 ?k3 ?k4 ?k5 ?kA ?kF ?kK ?k6 ?k7 ?k8 ?k9 ?kB ?_ ?c2 ?c3 ?c4 ?c5; (case kA => exact rfl); (case kF => exact rfl); (case kK => first | assumption | exact rfl); (case k1 => k_asm); (case k2 => k_asm); (case k3 => k_asm); (case k4 => k_asm); (case k5 => k_asm); (case k6 => k_is); (case k7 => k_is); (case k8 => k_room); (case k9 => first | exact BindsTo.of_eq rfl | exact binds_K (by k_in) rfl (by k_is) rfl rfl rfl | fail "k_enter: no rule for these arguments"); (case c5 => decide); (case kB => exact locs rfl); (case c2 => exact rfl); (case c3 => exact rfl); (case c4 => exact rfl); k_whole; intro g' L' h' FG' F' N' B' X' T'; (try dsimp only); (try k_lift B'); (try k_fold)))
local macro_rules | `(tactic| k_all) => `(tactic| (refine ne_of_below (by assumption) ?_; first | exact Nat.le_refl _ | omega))
local macro_rules | `(tactic| k_mem) => `(tactic| first | exact List.Mem.head _ | (refine List.Mem.tail _ ?_; k_mem) | assumption)
/-- what match_core answers, and what it leaves -/
def MRes (w : World) (G : Gram) (c : Mt) (P : List (Addr × Nat)) (Z : List Addr) (x : Addr) (p : Nat) (g : Gh) (news : Led) (r : Value) (news' : Led) : Prop :=
  ∃ g' : Gh, Inv w G c P Z g' news' ∧ Step (g.mu G c) (g'.mu G c) news news' ∧ Res G (g'.mu G c ++ Z) news' x p r
def MCt (w : World) (G : Gram) (c : Mt) (P : List (Addr × Nat)) (x : Addr) (p : Nat) : Prop :=
  ∀ (Z : List Addr) (g : Gh) (news : Led) (tt tp : Tok), Inv w G c P Z g news → Does w (2 * G.rk x p + 40) (20 * G.rk x p + 200) (call (.ref 297) [.ref x, .str G.text tt, .int p tp, .ref c.C, .ref c.e]) news (MRes w G c P Z x p g news)
theorem Inv.dxin {w : World} {G : Gram} {c : Mt} {P : List (Addr × Nat)} {Z : List Addr} {g : Gh} {news : Led} (h : Inv w G c P Z g news) {x : Addr} (hx : x ∈ G.xs) : ∃ od, (G.dx x, od) ∈ news := by
  obtain ⟨prs, ⟨_, n, h1⟩ | ⟨_, _, _, _, _, h1, _⟩, _⟩ := h.oids x hx
  · exact ⟨_, h1⟩
  · exact ⟨_, h1⟩
theorem Inv.muin {w : World} {G : Gram} {c : Mt} {P : List (Addr × Nat)} {Z : List Addr} {g : Gh} {news : Led} (h : Inv w G c P Z g news) : ∀ a ∈ g.mu G c ++ Z, ∃ o, (a, o) ∈ news := by
  intro a ha
  unfold Gh.mu at ha
  simp only [List.mem_append, List.mem_map, List.mem_cons] at ha
  rcases ha with (⟨x, hx, rfl⟩ | rfl | rfl | ha) | ha
  · exact h.dxin hx
  · obtain ⟨_, _, _, _, _, _, _, _, _, _, _, _, _, _, h1, _⟩ := h.err; exact ⟨_, h1⟩
  · obtain ⟨o, _, h1, _⟩ := h.cache; exact ⟨o, h1⟩
  · obtain ⟨o, x, _⟩ := h.dsd a ha; exact ⟨o, x⟩
  · exact h.zin a ha
theorem MCt.app {w : World} {G : Gram} {c : Mt} {P : List (Addr × Nat)} {x : Addr} {p : Nat} (ih : MCt w G c P x p) {Z : List Addr} {g : Gh} {news : Led} {tt tp : Tok} (hI : Inv w G c P Z g news) :
    Does w (2 * G.rk x p + 40) (20 * G.rk x p + 200) (call (.ref 297) [.ref x, .str G.text tt, .int p tp, .ref c.C, .ref c.e]) news (MRes w G c P Z x p g news) := ih Z g news tt tp hI
theorem MRes.seq {w : World} {G : Gram} {c : Mt} {P : List (Addr × Nat)} {Z : List Addr} {g g' : Gh} {news n1 n2 : Led} {x : Addr} {p : Nat} {r : Value} (s : Step (g.mu G c) (g'.mu G c) news n1) (h : MRes w G c P Z x p g' n1 r n2) : MRes w G c P Z x p g news r n2 :=
  let ⟨g2, a, d, f⟩ := h; ⟨g2, a, s.trans d, f⟩
end
section
theorem off_N1 : True := by
  w_top off
  exact True.intro
local macro_rules | `(tactic| walk_at "off 0") => `(tactic| fail)
local macro_rules | `(tactic| walk_at "off 1") => `(tactic| fail)
local macro_rules | `(tactic| walk_at "off 2") => `(tactic| fail)
theorem unr_N1 {a b : Nat} (h : a < b) : a < b := h
local macro_rules | `(tactic| k_room) => `(tactic| ((try simp only [depth_under_make, depth_under_kw, depth_in1, depth_deeper, depth_caller]); (try dsimp only [ktrTop]); (try simp only [recursionLimit]); omega))
local macro_rules | `(tactic| k_units) => `(tactic| ((try simp only [units_in1, units_deeper, Around.mark_units, units_caller]); (try dsimp only [ktrTop]); (try simp only [cLine]); omega))
local macro_rules | `(tactic| k_enter) => `(tactic| (refine' code_def ?k1 ?k2 ?k3 ?k4 ?k5 ?kA ?kF ?kK ?k6 ?k7 ?k8 ?k9 ?kB ?_ ?c2 ?c3 ?c4 ?c5; (case kA => exact rfl); (case kF => exact rfl); (case kK => first | assumption | exact rfl); (case k1 => k_asm); (case k2 => k_asm); (case k3 => k_asm); (case k4 => k_asm); (case k5 => k_asm); (case k6 => k_is); (case k7 => k_is); (case k8 => k_room); (case k9 => first | exact BindsTo.of_eq rfl | exact binds_K (by k_in) rfl (by k_is) rfl rfl rfl | fail "k_enter: no rule for these arguments"); (case c5 => decide); (case kB => exact locs rfl); (case c2 => exact rfl); (case c3 => exact rfl); (case c4 => exact rfl); k_whole; intro g' L' h' FG' F' N' B' X' T'; (try dsimp only); (try k_lift B'); (try k_fold)))
local macro_rules | `(tactic| k_all) => `(tactic| (refine ne_of_below (by assumption) ?_; first | exact Nat.le_refl _ | omega))
local macro_rules | `(tactic| k_mem) => `(tactic| first | exact List.Mem.head _ | (refine List.Mem.tail _ ?_; k_mem) | assumption)
theorem fresh_not {Mu : List Addr} {news : Led} {d : Addr} (hMu : ∀ a ∈ Mu, ∃ o, (a, o) ∈ news) (h : ∀ p ∈ news, p.1 < d) : d ∉ Mu := fun hm =>
  let ⟨_, ho⟩ := hMu d hm; Nat.lt_irrefl _ (h _ ho)
theorem fresh_not2 {Mu : List Addr} {news : Led} {d l : Nat} (hMu : ∀ a ∈ Mu, ∃ o, (a, o) ∈ news) (h : ∀ p ∈ news, p.1 < d) (hl : d < l) : l ∉ Mu := fun hm =>
  let ⟨_, ho⟩ := hMu l hm; Nat.lt_irrefl _ (Nat.lt_trans (h _ ho) hl)
theorem node_new (w : World) (news : Led) (Mu : List Addr) (hMu : ∀ a ∈ Mu, ∃ o, (a, o) ∈ news) (x : Addr) (text : Str) (tt : Tok) (p q : Int) (tp tq : Tok) :
    Does w 10 60 (call (.ref 243) [.ref x, .str text tt, .int p tp, .int q tq]) news (fun r news' => (∀ z ∈ news, z ∈ news') ∧ ∃ nd, r = .ref nd ∧ NodeB Mu news' nd x text p q []) := by
  unfold Does
  k_fill
  intro dp un gd cn cs a ccd cl outer A₀ base h₀ L m s loose mean mg mb Q E B F X N T hk hdp hun hret
  k_steps
  refine hret _ _ _ _ (by assumption) (by assumption) ⟨fun z hz => by simp [hz], _, rfl, _, _, _, _, _, _, _, ?a, ?b, by k_mem, by k_mem, by k_mem⟩
  · exact fresh_not hMu (by assumption)
  · exact fresh_not2 hMu (by assumption) (by omega)

theorem node_new5 (w : World) (news : Led) (Mu : List Addr) (hMu : ∀ a ∈ Mu, ∃ o, (a, o) ∈ news) (x ch : Addr) (items : List Value) (k : Nat) (text : Str) (tt : Tok) (p q : Int) (tp tq : Tok) (hch : (ch, W.listOf items.toArray k) ∈ news) (hcM : ch ∉ Mu) (hi : items ≠ []) (hz : items.length ≤ 100) :
    Does w 10 60 (call (.ref 243) [.ref x, .str text tt, .int p tp, .int q tq, .ref ch]) news (fun r news' => (∀ z ∈ news, z ∈ news') ∧ ∃ nd, r = .ref nd ∧ NodeB Mu news' nd x text p q items) := by
  unfold Does
  k_fill
  intro dp un gd cn cs a ccd cl outer A₀ base h₀ L m s loose mean mg mb Q E B F X N T hk hdp hun hret
  k_steps
  refine kgr_truthy (by assumption) (hm := by k_mem) rfl rfl (Nat.lt_of_le_of_lt hz (by decide)) ?_
  have e : items.isEmpty = false := by cases items with | nil => exact absurd rfl hi | cons a r => rfl
  rw [e]
  k_steps
  exact hret _ _ _ _ (by assumption) (by assumption) ⟨fun z hz => by simp [hz], _, rfl, _, _, _, _, _, _, _, fresh_not hMu (by assumption), hcM, by k_mem, by k_mem, by k_mem⟩
theorem node_newK (w : World) (news : Led) (Mu : List Addr) (hMu : ∀ a ∈ Mu, ∃ o, (a, o) ∈ news) (x ch : Addr) (items : List Value) (k : Nat) (text : Str) (tt : Tok) (p q : Int) (tp tq : Tok) (hch : (ch, W.listOf items.toArray k) ∈ news) (hcM : ch ∉ Mu) (hi : items ≠ []) (hz : items.length ≤ 100) :
    Does w 10 60 (call (.ref 243) [.ref x, .str text tt, .int p tp, .int q tq] [(Str.ofString "children", .ref ch)]) news (fun r news' => (∀ z ∈ news, z ∈ news') ∧ ∃ nd, r = .ref nd ∧ NodeB Mu news' nd x text p q items) := by
  unfold Does
  k_fill
  intro dp un gd cn cs a ccd cl outer A₀ base h₀ L m s loose mean mg mb Q E B F X N T hk hdp hun hret
  k_steps
  refine kgr_truthy (by assumption) (hm := by k_mem) rfl rfl (Nat.lt_of_le_of_lt hz (by decide)) ?_
  have e : items.isEmpty = false := by cases items with | nil => exact absurd rfl hi | cons a r => rfl
  rw [e]
  k_steps
  exact hret _ _ _ _ (by assumption) (by assumption) ⟨fun z hz => by simp [hz], _, rfl, _, _, _, _, _, _, _, fresh_not hMu (by assumption), hcM, by k_mem, by k_mem, by k_mem⟩
end
section
theorem off_L1 : True := by
  w_top off
  exact True.intro
theorem unr_L1 {a b : Nat} (h : a < b) : a < b := h
local macro_rules | `(tactic| k_room) => `(tactic| ((try simp only [depth_under_make, depth_under_kw, depth_in1, depth_deeper, depth_caller]); (try dsimp only [ktrTop]); (try simp only [recursionLimit]); omega))
local macro_rules | `(tactic| k_units) => `(tactic| ((try simp only [units_in1, units_deeper, Around.mark_units, units_caller]); (try dsimp only [ktrTop]); (try simp only [cLine]); omega))
local macro_rules | `(tactic| k_enter) => `(tactic| (refine' code_def ?k1 ?k2 ?k3 ?k4 ?k5 ?kA ?kF ?kK ?k6 ?k7 ?k8 ?k9 ?kB ?_ ?c2 ?c3 ?c4 ?c5; (case kA => exact rfl); (case kF => exact rfl); (case kK => first | assumption | exact rfl); (case k1 => k_asm); (case k2 => k_asm); (case k3 => k_asm); (case k4 => k_asm); (case k5 => k_asm); (case k6 => k_is); (case k7 => k_is); (case k8 => k_room); (case k9 => first | exact BindsTo.of_eq rfl | exact binds_K (by k_in) rfl (by k_is) rfl rfl rfl | fail "k_enter: no rule for these arguments"); (case c5 => decide); (case kB => exact locs rfl); (case c2 => exact rfl); (case c3 => exact rfl); (case c4 => exact rfl); k_whole; intro g' L' h' FG' F' N' B' X' T'; (try dsimp only); (try k_lift B'); (try k_fold)))
local macro_rules | `(tactic| k_all) => `(tactic| (refine ne_of_below (by assumption) ?_; first | exact Nat.le_refl _ | omega))
local macro_rules | `(tactic| k_mem) => `(tactic| first | exact List.Mem.head _ | (refine List.Mem.tail _ ?_; k_mem) | assumption)
local macro_rules | `(tactic| walk_at "call ref") => `(tactic| (k_here; k_dflt (refine' Does.use (node_new _ _ _ ?hMu _ _ _ _ _ _ _) ?B ?F ?X ?N ?T ?k ?d ?u ?_; (case hMu => assumption); (case B => k_asm); (case F => k_asm); (case X => k_asm); (case N => k_asm); (case T => k_asm); (case k => exact rfl); (case d => k_room); (case u => k_units); intro r9 n9 h9 t9 F9 N9 R9; obtain ⟨K9, nd9, e9, R9⟩ := R9; subst e9; (try dsimp only); (try k_fold))))
theorem lit_um (w : World) (news : Led) (Mu : List Addr) (hMu : ∀ a ∈ Mu, ∃ o, (a, o) ∈ news) (x dx : Addr) (nm idt : Value) (word text : Str) (tw tt tp : Tok) (p : Nat) (c e : Addr) (od : Obj)
    (hx : (x, (⟨.ref 367, some dx, .plain, #[some (.str word tw), some idt, some nm]⟩ : Obj)) ∈ news) (hdx : (dx, od) ∈ news) (hwl : word.length ≤ 100) :
    Does w 20 100 (call (.ref 356) [.ref x, .str text tt, .int p tp, .ref c, .ref e]) news (fun r news' => (∀ z ∈ news, z ∈ news') ∧
      if Txt.startswith3 text word p then ∃ nd, r = .ref nd ∧ NodeB Mu news' nd x text p (p + word.length) [] else r = .none) := by
  unfold Does
  k_fill
  intro dp un gd cn cs a ccd cl outer A₀ base h₀ L m s loose mean mg mb Q E B F X N T hk hdp hun hret
  refine wpAny_call ?_
  k_enter
  k_steps
  · rename Txt.startswith3 text word _ = true => hs
    exact hret _ _ _ _ (by assumption) (by assumption) ⟨by assumption, by rw [if_pos hs]; exact ⟨_, rfl, by assumption⟩⟩
  · rename Txt.startswith3 text word _ = false => hs
    exact hret _ _ _ _ (by assumption) (by assumption) ⟨fun _ h => h, by rw [if_neg (by rw [hs]; decide)]⟩
end
section
theorem off_Lp : True := by
  w_top off
  exact True.intro
theorem unr_Lp {a b : Nat} (h : a < b) : a < b := h
local macro_rules | `(tactic| k_room) => `(tactic| ((try simp only [depth_under_make, depth_under_kw, depth_in1, depth_deeper, depth_caller]); (try dsimp only [ktrTop]); (try simp only [recursionLimit]); omega))
local macro_rules | `(tactic| k_units) => `(tactic| ((try simp only [units_in1, units_deeper, Around.mark_units, units_caller]); (try dsimp only [ktrTop]); (try simp only [cLine]); omega))
local macro_rules | `(tactic| k_enter) => `(tactic| (refine' code_def ?k1 ?k2 ?k3 ?k4 ?k5 ?kA ?kF ?kK ?k6 ?k7 ?k8 ?k9 ?kB ?_ ?c2 ?c3 ?c4 ?c5; (case kA => exact rfl); (case kF => exact rfl); (case kK => first | assumption | exact rfl); (case k1 => k_asm); (case k2 => k_asm); (case k3 => k_asm); (case k4 => k_asm); (case k5 => k_asm); (case k6 => k_is); (case k7 => k_is); (case k8 => k_room); (case k9 => first | exact BindsTo.of_eq rfl | exact binds_K (by k_in) rfl (by k_is) rfl rfl rfl | fail "k_enter: no rule for these arguments"); (case c5 => decide); (case kB => exact locs rfl); (case c2 => exact rfl); (case c3 => exact rfl); (case c4 => exact rfl); k_whole; intro g' L' h' FG' F' N' B' X' T'; (try dsimp only); (try k_lift B'); (try k_fold)))
local macro_rules | `(tactic| k_all) => `(tactic| (refine ne_of_below (by assumption) ?_; first | exact Nat.le_refl _ | omega))
local macro_rules | `(tactic| k_mem) => `(tactic| first | exact List.Mem.head _ | (refine List.Mem.tail _ ?_; k_mem) | assumption)
section
variable {prog : Program} {w : World} {A : Around} {E : Value → Shared → Prop} {s : Shared} {env : Env} {h₀ : Heap} {x : Str} {body : List Stmt} {Q : Flow → Shared → Prop} {m : Str → Option Value} {news : Led}
/-- what a turn of a loop leaves -/
def TurnEnd (h₀ : Heap) (L : Addr) (J : (Str → Option Value) → Led → Prop) (n₁ : Led) (s₁ : Shared) (Q : Flow → Shared → Prop) (f : Flow) (s₂ : Shared) : Prop := match f with
  | .ret v => Q (.ret v) s₂
  | .brk => Q .next s₂
  | _ => ∃ h' tk m' n', s₂ = { s₁ with heap := h', toks := tk } ∧ Fr h₀ L h' m' ∧ News h₀ L h' n' ∧ (∀ z ∈ n₁, z.2.cls ≠ dT → z.2.cls ≠ .type "list" → z ∈ n') ∧ J m' n'
theorem turn_next {L : Addr} {J : (Str → Option Value) → Led → Prop} {n₁ n' : Led} {s₁ : Shared} {h' : Heap} {tk : Nat} {m' : Str → Option Value} (F : Fr h₀ L h' m') (N : News h₀ L h' n') (K : ∀ z ∈ n₁, z.2.cls ≠ dT → z.2.cls ≠ .type "list" → z ∈ n') (hJ : J m' n') :
    TurnEnd h₀ L J n₁ s₁ Q .next { s₁ with heap := h', toks := tk } := ⟨h', tk, m', n', rfl, F, N, K, hJ⟩
theorem turn_ret {L : Addr} {J : (Str → Option Value) → Led → Prop} {n₁ : Led} {s₁ s₂ : Shared} {v : Value} (h : Q (.ret v) s₂) : TurnEnd h₀ L J n₁ s₁ Q (.ret v) s₂ := h

theorem tup_loop {t : Addr} {vs : List Value} {k : Nat} (hh : A.handled = none) (ht : (t, tupO vs k) ∈ news) (F : Fr h₀ env.locals s.heap m) (N : News h₀ env.locals s.heap news)
    (J : Nat → (Str → Option Value) → Led → Prop)
    (mono : ∀ I, (∀ z ∈ news, z.1 < I) → ∀ i m n n', J i m n → (∀ z ∈ n, (Asked z.2 ∨ z.1 ≠ I) → z ∈ n') → J i m n')
    (h0 : J 0 m news)
    (turn : ∀ i v m₁ n₁ h tk, vs[i]? = some v → J i m₁ n₁ → Fr h₀ env.locals h (fun y => if y = x then some v else m₁ y) → News h₀ env.locals h n₁ →
      wpAny (model prog w) A (execs body env) (TurnEnd h₀ env.locals (J (i + 1)) n₁ { s with heap := h, toks := tk } Q) E { s with heap := h, toks := tk })
    (done : ∀ m₁ n₁ h tk, J vs.length m₁ n₁ → Fr h₀ env.locals h m₁ → News h₀ env.locals h n₁ → Q .next { s with heap := h, toks := tk }) :
    wpAny (model prog w) A (pyIter (.ref t)) (fun it s₂ => LoopAtV prog w A h₀ env x body Q E it s₂) E s := by
  have ht' := N _ ht
  have hts : s.heap.IsTuple t vs.toArray := ⟨_, ht'.1, rfl, _, rfl⟩
  have hlt : t < s.heap.objs.size := Heap.lt_size ht'.1
  refine wpAny_pyIter_tuple hts ?_
  have hne : t ≠ s.heap.objs.size := Nat.ne_of_lt hlt
  have W := Walks.tuple (prog := prog) (w := w) hh s.heap.objs.size t hne vs.toArray
  have nlt : ∀ z ∈ news, z.1 < s.heap.objs.size := fun z hz => Heap.lt_size (N z hz).1
  refine ⟨_, _, _, vs.toArray.size, _, _, m, news, J, rfl, W, ?_, ?_, ?_, ⟨⟨_, Heap.get?_push_size _ rfl, rfl, rfl⟩, hts.push _⟩, F.push _, (fun p hp => ⟨Heap.get?_push_of_some _ (N p hp).1, (N p hp).2⟩), h0, ?_, ?_⟩
  · intro hm
    rcases List.mem_cons.mp hm with e | hm
    · exact absurd F.ns.lt (e ▸ Nat.lt_irrefl _)
    · exact ht'.2.1 (List.mem_singleton.mp hm).symm
  · intro b hb
    rw [List.mem_singleton.mp hb]
    exact next_is_new F
  · intro p hp hI
    exact Nat.lt_irrefl _ ((List.mem_singleton.mp hI) ▸ nlt p hp)
  · rintro i v m₁ news₁ s₁ own ⟨hh', tk', rfl⟩ hin hP hJ hoff hown hownh hin' hSt F₁ N₁
    have hv : vs[i]? = some v := by simpa using hP
    have hJ' : J i m₁ (own ++ news₁) := mono _ nlt _ _ _ _ hJ fun z hz _ => List.mem_append_right _ hz
    refine wpAny_mono (turn i v m₁ (own ++ news₁) hh' tk' hv hJ' F₁ N₁) (fun f s₂ p => ?_) fun _ _ e => e
    have fin : (∃ h' tk m' n', s₂ = { ({ s with heap := hh', toks := tk' } : Shared) with heap := h', toks := tk } ∧ Fr h₀ env.locals h' m' ∧ News h₀ env.locals h' n' ∧ (∀ z ∈ own ++ news₁, z.2.cls ≠ dT → z.2.cls ≠ .type "list" → z ∈ n') ∧ J (i + 1) m' n') →
        LoopStepU h₀ env.locals [s.heap.objs.size] own (J (i + 1)) { s with heap := hh', toks := tk' } .next s₂ := by
      rintro ⟨h', tk, m', n', e, F', N', K', hJ'⟩
      obtain ⟨⟨oI, hI1, hI2, _⟩, ⟨oT, hT1, hT2, _⟩⟩ := hSt
      have own' : ∀ z ∈ own, z ∈ n' := fun z hz => by
        have hz1 := hown z hz
        have hz2 := hownh z hz
        have c : z.2.cls = .type "tuple_iterator" ∨ z.2.cls = .type "tuple" := by
          rcases List.mem_cons.mp hz1 with e1 | e1
          · rw [e1] at hz2; exact .inl ((Option.some.inj (hz2.symm.trans hI1)) ▸ hI2)
          · have e1 := List.mem_singleton.mp e1; rw [e1] at hz2; exact .inr ((Option.some.inj (hz2.symm.trans hT1)) ▸ hT2)
        exact K' z (List.mem_append_left _ hz) (by rcases c with c | c <;> rw [c] <;> decide) (by rcases c with c | c <;> rw [c] <;> decide)
      have hIn : ∃ o, (s.heap.objs.size, o) ∈ own ∧ o.cls = .type "tuple_iterator" := ⟨oI, hin' _ (.head _) (next_is_new F) oI hI1, hI2⟩
      obtain ⟨oI', hIo, hIc⟩ := hIn
      have hI' := (N' _ (own' _ hIo)).1
      refine ⟨rfl, h', tk, m', n'.filter (fun z => z.1 ≠ s.heap.objs.size), e, F', fun p hp => ?_, fun p hp hq => ?_, mono _ nlt _ _ _ _ hJ' fun z hz hc => ?_⟩
      · rcases List.mem_append.mp hp with hp | hp
        · exact N' p (own' p hp)
        · exact N' p (List.mem_filter.mp hp).1
      · exact (of_decide_eq_true (List.mem_filter.mp hp).2) (List.mem_singleton.mp hq)
      · refine List.mem_filter.mpr ⟨hz, decide_eq_true fun q => ?_⟩
        rcases hc with hc | hc
        · have hz1 := (N' z hz).1
          rw [q] at hz1
          have e2 : z.2 = oI' := Option.some.inj (hz1.symm.trans hI')
          rw [e2] at hc
          unfold Asked at hc
          rw [hIc] at hc
          rcases hc with hc | hc | hc | ⟨a, hc⟩
          · exact absurd hc (by decide)
          · exact absurd hc (by decide)
          · exact absurd hc (by decide)
          · cases hc
        · exact hc q
    cases f with
    | ret v => exact .ret p
    | brk => exact .brk p
    | next => exact .next (fin p)
    | cont => exact .cont (fin p)
  · rintro h' tk m' news' F' N' _ hJ
    exact done m' news' h' tk (by simpa using hJ) F' N'
end
section
variable {prog : Program} {w : World} {A : Around} {E : Value → Shared → Prop} {s : Shared} {env : Env} {h₀ : Heap} {x : Str} {body : List Stmt} {Q : Flow → Shared → Prop} {m : Str → Option Value} {news : Led}
/-- the frame: these names hold anything -/
def anyBut (ys : List Str) (u m : Str → Option Value) : Str → Option Value := fun z => if ys.contains z then u z else m z
theorem tup_loopU {t : Addr} {vs : List Value} {k : Nat} (ys : List Str) (hh : A.handled = none) (ht : (t, tupO vs k) ∈ news) (F : Fr h₀ env.locals s.heap m) (N : News h₀ env.locals s.heap news)
    (J : Nat → Led → Prop)
    (mono : ∀ I, (∀ z ∈ news, z.1 < I) → ∀ i n n', J i n → (∀ z ∈ n, (Asked z.2 ∨ z.1 ≠ I) → z ∈ n') → J i n')
    (h0 : J 0 news)
    (turn : ∀ i v u n₁ h tk, vs[i]? = some v → J i n₁ → Fr h₀ env.locals h (fun y => if y = x then some v else anyBut ys u m y) → News h₀ env.locals h n₁ →
      wpAny (model prog w) A (execs body env) (TurnEnd h₀ env.locals (fun m' n' => (∀ z, z ≠ x → ys.contains z = false → m' z = m z) ∧ J (i + 1) n') n₁ { s with heap := h, toks := tk } Q) E { s with heap := h, toks := tk })
    (done : ∀ u n₁ h tk, J vs.length n₁ → Fr h₀ env.locals h (fun y => if y = x then u x else anyBut ys u m y) → News h₀ env.locals h n₁ → Q .next { s with heap := h, toks := tk }) :
    wpAny (model prog w) A (pyIter (.ref t)) (fun it s₂ => LoopAtV prog w A h₀ env x body Q E it s₂) E s := by
  refine tup_loop hh ht F N (fun i m₁ n₁ => (∀ z, z ≠ x → ys.contains z = false → m₁ z = m z) ∧ J i n₁) (fun I hI i m n n' hJ k => ⟨hJ.1, mono I hI i n n' hJ.2 k⟩) ⟨fun _ _ _ => rfl, h0⟩ ?_ ?_
  · rintro i v m₁ n₁ h tk hv ⟨hm, hJ⟩ F₁ N₁
    have e : (fun y => if y = x then some v else m₁ y) = fun y => if y = x then some v else anyBut ys m₁ m y := by
      funext z
      unfold anyBut
      by_cases h1 : z = x
      · rw [if_pos h1, if_pos h1]
      · rw [if_neg h1, if_neg h1]
        cases h2 : ys.contains z with
        | true => rfl
        | false => exact hm z h1 h2
    rw [e] at F₁
    exact turn i v m₁ n₁ h tk hv hJ F₁ N₁
  · rintro m₁ n₁ h tk ⟨hm, hJ⟩ F₁ N₁
    have e : m₁ = fun y => if y = x then m₁ x else anyBut ys m₁ m y := by
      funext z
      unfold anyBut
      by_cases h1 : z = x
      · rw [if_pos h1, h1]
      · rw [if_neg h1]
        cases h2 : ys.contains z with
        | true => rfl
        | false => exact hm z h1 h2
    rw [e] at F₁
    exact done m₁ n₁ h tk hJ F₁ N₁
end
theorem contains_one {z y : Str} (h : [y].contains z = false) : z ≠ y := by
  intro e
  subst e
  simp at h
theorem frame1 {x y z : Str} {u M : Str → Option Value} {v r : Option Value} (h1 : z ≠ x) (h2 : [y].contains z = false) : (if z = y then r else if z = x then v else anyBut [y] u M z) = M z := by
  rw [if_neg (contains_one h2), if_neg h1]
  unfold anyBut
  rw [h2]
  rfl
theorem mu_tail {Mu : List Addr} {news : Led} {q : Addr × Obj} (h : ∀ a ∈ Mu, ∃ o, (a, o) ∈ news) : ∀ a ∈ Mu, ∃ o, (a, o) ∈ q :: news := fun a ha => let ⟨o, x⟩ := h a ha; ⟨o, .tail _ x⟩
/-- the loop's own object aside, nothing turns -/
theorem Inv.aside {w : World} {G : Gram} {c : Mt} {P : List (Addr × Nat)} {Z : List Addr} {g g1 : Gh} {n0 n n' : Led} {I : Addr} (h : Inv w G c P Z g1 n) (S : Step (g.mu G c) (g1.mu G c) n0 n) (hI : ∀ z ∈ n0, z.1 < I) (hZ : ∀ a ∈ Z, ∃ o, (a, o) ∈ n ∧ (a ≠ I ∨ Asked o))
    (k : ∀ z ∈ n, (Asked z.2 ∨ z.1 ≠ I) → z ∈ n') : Inv w G c P Z g1 n' ∧ Step (g.mu G c) (g1.mu G c) n0 n' := by
  have old : ∀ z ∈ n0, ∃ o, (z.1, o) ∈ n' := fun z hz => let ⟨o, x⟩ := S.dom z hz; ⟨o, k _ x (.inr (Nat.ne_of_lt (hI z hz)))⟩
  refine ⟨h.asked (fun z hz ha _ => k z hz (.inl ha)) (fun a ha => let ⟨o, x, y⟩ := hZ a ha; ⟨o, k _ x y.symm⟩), ⟨fun z hz hc => k z (S.kept z hz hc) (.inr (Nat.ne_of_lt (hI z hz))), old, S.new, S.sub⟩⟩
theorem drop1 {q : Addr × Obj} {n n' : Led} (h : ∀ z ∈ q :: n, z ∈ n') : ∀ z ∈ n, z ∈ n' := fun z hz => h z (.tail _ hz)
theorem zin_old {Z : List Addr} {n0 n : Led} {I : Addr} {M1 M2 : List Addr} (S : Step M1 M2 n0 n) (hI : ∀ z ∈ n0, z.1 < I) (hZ : ∀ a ∈ Z, ∃ o, (a, o) ∈ n0) : ∀ a ∈ Z, ∃ o, (a, o) ∈ n ∧ (a ≠ I ∨ Asked o) := fun a ha =>
  let ⟨o, x⟩ := hZ a ha; let ⟨o', y⟩ := S.dom (a, o) x; ⟨o', y, .inl (Nat.ne_of_lt (hI (a, o) x))⟩
end
section
theorem off_Lq : True := by
  w_top off
  exact True.intro
theorem unr_Lq {a b : Nat} (h : a < b) : a < b := h
local macro_rules | `(tactic| k_room) => `(tactic| ((try simp only [depth_under_make, depth_under_kw, depth_in1, depth_deeper, depth_caller]); (try dsimp only [ktrTop]); (try simp only [recursionLimit]); omega))
local macro_rules | `(tactic| k_units) => `(tactic| ((try simp only [units_in1, units_deeper, Around.mark_units, units_caller]); (try dsimp only [ktrTop]); (try simp only [cLine]); omega))
local macro_rules | `(tactic| k_enter) => `(tactic| (refine' code_def ?k1 ?k2 ?k3 ?k4 ?k5 ?kA ?kF ?kK ?k6 ?k7 ?k8 ?k9 ?kB ?_ ?c2 ?c3 ?c4 ?c5; (case kA => exact rfl); (case kF => exact rfl); (case kK => first | assumption | exact rfl); (case k1 => k_asm); (case k2 => k_asm); (case k3 => k_asm); (case k4 => k_asm); (case k5 => k_asm); (case k6 => k_is); (case k7 => k_is); (case k8 => k_room); (case k9 => first | exact BindsTo.of_eq rfl | exact binds_K (by k_in) rfl (by k_is) rfl rfl rfl | fail "k_enter: no rule for these arguments"); (case c5 => decide); (case kB => exact locs rfl); (case c2 => exact rfl); (case c3 => exact rfl); (case c4 => exact rfl); k_whole; intro g' L' h' FG' F' N' B' X' T'; (try dsimp only); (try k_lift B'); (try k_fold)))
local macro_rules | `(tactic| k_all) => `(tactic| (refine ne_of_below (by assumption) ?_; first | exact Nat.le_refl _ | omega))
local macro_rules | `(tactic| k_mem) => `(tactic| first | exact List.Mem.head _ | (refine List.Mem.tail _ ?_; k_mem) | assumption)
section
variable {prog : Program} {w : World} {A : Around} {E : Value → Shared → Prop} {s : Shared} {env : Env} {h₀ : Heap} {x : Str} {body : List Stmt} {Q : Flow → Shared → Prop} {m : Str → Option Value} {news : Led}
/-- the same with one name whose value is told -/
theorem tup_loopT {t : Addr} {vs : List Value} {k : Nat} (y : Str) (ys : List Str) {v₀ : Value} (hh : A.handled = none) (ht : (t, tupO vs k) ∈ news) (F : Fr h₀ env.locals s.heap m) (N : News h₀ env.locals s.heap news) (hy : m y = some v₀) (_hyx : y ≠ x)
    (J : Nat → Value → Led → Prop)
    (mono : ∀ I, (∀ z ∈ news, z.1 < I) → ∀ i v n n', J i v n → (∀ z ∈ n, (Asked z.2 ∨ z.1 ≠ I) → z ∈ n') → J i v n')
    (h0 : J 0 v₀ news)
    (turn : ∀ i v c u n₁ h tk, vs[i]? = some v → J i c n₁ → Fr h₀ env.locals h (fun z => if z = x then some v else if z = y then some c else anyBut ys u m z) → News h₀ env.locals h n₁ →
      wpAny (model prog w) A (execs body env) (TurnEnd h₀ env.locals (fun m' n' => (∀ z, z ≠ x → z ≠ y → ys.contains z = false → m' z = m z) ∧ ∃ c', m' y = some c' ∧ J (i + 1) c' n') n₁ { s with heap := h, toks := tk } Q) E { s with heap := h, toks := tk })
    (done : ∀ c u n₁ h tk, J vs.length c n₁ → Fr h₀ env.locals h (fun z => if z = x then u x else if z = y then some c else anyBut ys u m z) → News h₀ env.locals h n₁ → Q .next { s with heap := h, toks := tk }) :
    wpAny (model prog w) A (pyIter (.ref t)) (fun it s₂ => LoopAtV prog w A h₀ env x body Q E it s₂) E s := by
  refine tup_loop hh ht F N (fun i m₁ n₁ => (∀ z, z ≠ x → z ≠ y → ys.contains z = false → m₁ z = m z) ∧ ∃ c', m₁ y = some c' ∧ J i c' n₁) (fun I hI i m n n' hJ k => ⟨hJ.1, let ⟨c, a, b⟩ := hJ.2; ⟨c, a, mono I hI i c n n' b k⟩⟩) ⟨fun _ _ _ _ => rfl, v₀, hy, h0⟩ ?_ ?_
  · rintro i v m₁ n₁ h tk hv ⟨hm, c, hc, hJ⟩ F₁ N₁
    have e : (fun z => if z = x then some v else m₁ z) = fun z => if z = x then some v else if z = y then some c else anyBut ys m₁ m z := by
      funext z
      unfold anyBut
      by_cases h1 : z = x
      · rw [if_pos h1, if_pos h1]
      · rw [if_neg h1, if_neg h1]
        by_cases h3 : z = y
        · rw [if_pos h3, h3, hc]
        · rw [if_neg h3]
          cases h2 : ys.contains z with
          | true => rfl
          | false => exact hm z h1 h3 h2
    rw [e] at F₁
    exact turn i v c m₁ n₁ h tk hv hJ F₁ N₁
  · rintro m₁ n₁ h tk ⟨hm, c, hc, hJ⟩ F₁ N₁
    have e : m₁ = fun z => if z = x then m₁ x else if z = y then some c else anyBut ys m₁ m z := by
      funext z
      unfold anyBut
      by_cases h1 : z = x
      · rw [if_pos h1, h1]
      · rw [if_neg h1]
        by_cases h3 : z = y
        · rw [if_pos h3, h3, hc]
        · rw [if_neg h3]
          cases h2 : ys.contains z with
          | true => rfl
          | false => exact hm z h1 h3 h2
    rw [e] at F₁
    exact done c m₁ n₁ h tk hJ F₁ N₁
end
section
variable {prog : Program} {w : World} {A : Around} {E : Value → Shared → Prop} {s : Shared} {h₀ : Heap} {L : Addr} {m : Str → Option Value} {news : Led}
theorem focus {h : Heap} {d : Addr} {o : Obj} (N : News h₀ L h news) (hm : (d, o) ∈ news) : News h₀ L h ((d, o) :: news.filter fun z => z.1 ≠ d) := fun p hp => by
  rcases List.mem_cons.mp hp with rfl | hp
  · exact N _ hm
  · exact N _ (List.mem_filter.mp hp).1
theorem off_filter {d : Addr} : ∀ p ∈ news.filter (fun z => z.1 ≠ d), p.1 ≠ d := fun _ hp => of_decide_eq_true (List.mem_filter.mp hp).2
theorem in_filter {d : Addr} {o : Obj} : ∀ z ∈ news, z.1 ≠ d → z ∈ (d, o) :: news.filter (fun z => z.1 ≠ d) := fun _ hz hn => .tail _ (List.mem_filter.mpr ⟨hz, decide_eq_true hn⟩)
/-- an append to a list that lies anywhere in the ledger -/
theorem app_any {D : Addr} {items : List Value} {k : Nat} {x : Value} {Q : Value → Shared → Prop} (F : Fr h₀ L s.heap m) (N : News h₀ L s.heap news) (hm : (D, W.listOf items.toArray k) ∈ news) (hz : items.length ≤ 100)
    (h : ∀ h' n', Fr h₀ L h' m → News h₀ L h' n' → (D, W.listOf (items ++ [x]).toArray (k + 1)) ∈ n' → (∀ z ∈ news, z.1 ≠ D → z ∈ n') → Q .none { s with heap := h' }) :
    wpAny (model prog w) A (call (.builtin "list.append") [.ref D, x]) Q E s := by
  refine append_K F (focus N hm) (Upd.head off_filter) (fun h' F' N' => h h' _ F' N' ?_ in_filter) (by rw [List.size_toArray, sizeLine_eq]; omega)
  rw [← List.push_toArray]
  exact .head _
end
theorem sameAddr {h₀ h : Heap} {L : Addr} {news : Led} (N : News h₀ L h news) {a : Addr} {o o' : Obj} (h1 : (a, o) ∈ news) (h2 : (a, o') ∈ news) : o = o' := Option.some.inj ((N _ h1).1.symm.trans (N _ h2).1)
/-- a list that no node uses has turned -/
theorem Inv.turned {w : World} {G : Gram} {c : Mt} {P : List (Addr × Nat)} {Z : List Addr} {g g0 : Gh} {n0 n n' : Led} {a : Addr} {o o' : Obj} {h₀ h : Heap} {L : Addr} (N : News h₀ L h n) (hI : Inv w G c P (a :: Z) g n) (S : Step (g0.mu G c) (g.mu G c) n0 n) (ha : (a, o) ∈ n) (ho : o.cls = lT) (hf : ∀ z ∈ n0, z.1 < a)
    (ha' : (a, o') ∈ n') (s : ∀ z ∈ n, z.1 ≠ a → z ∈ n') : Inv w G c P (a :: Z) g n' ∧ Step (g0.mu G c) (g.mu G c) n0 n' := by
  have off : ∀ z ∈ n, z.2.cls ≠ lT → z.1 ≠ a := fun z hz hc e => hc (by rw [sameAddr N (a := a) (o := z.2) (o' := o) (e ▸ hz) ha]; exact ho)
  have back : ∀ z ∈ n, ∃ o, (z.1, o) ∈ n' := fun z hz => by
    by_cases e : z.1 = a
    · exact ⟨o', e ▸ ha'⟩
    · exact ⟨z.2, s z hz e⟩
  refine ⟨hI.asked (fun z hz hA hl => s z hz ?_) (fun b hb => ?_), ⟨fun z hz hc => s z (S.kept z hz hc) (Nat.ne_of_lt (hf z hz)), fun z hz => let ⟨o, x⟩ := S.dom z hz; back (z.1, o) x, S.new, S.sub⟩⟩
  · by_cases hc : z.2.cls = lT
    · exact fun e => hl hc (e ▸ .head _)
    · exact off z hz hc
  · obtain ⟨o, x⟩ := hI.zin b hb
    exact back _ x
theorem contains_two {z y1 y2 : Str} (h : [y1, y2].contains z = false) : z ≠ y1 ∧ z ≠ y2 := by
  constructor <;> intro e <;> subst e <;> simp at h
theorem kept_but {Z : List Addr} {n n' : Led} {a : Addr} {o : Obj} {h₀ h : Heap} {L : Addr} (N : News h₀ L h n) (ha : (a, o) ∈ n) (ho : o.cls = lT) (s : ∀ z ∈ n, z.1 ≠ a → z ∈ n') :
    ∀ z ∈ n, Asked z.2 → (z.2.cls = lT → z.1 ∉ a :: Z) → z ∈ n' := fun z hz _ hl => s z hz fun e => by
  have : z.2 = o := sameAddr N (a := a) (e ▸ hz) ha
  exact hl (by rw [this]; exact ho) (e ▸ .head _)
theorem kept_nl {n n' : Led} {a : Addr} {o : Obj} {h₀ h : Heap} {L : Addr} (N : News h₀ L h n) (ha : (a, o) ∈ n) (ho : o.cls = lT) (s : ∀ z ∈ n, z.1 ≠ a → z ∈ n') : ∀ z ∈ n, z.2.cls ≠ lT → z ∈ n' := fun z hz hl => s z hz fun e => by
  have : z.2 = o := sameAddr N (a := a) (e ▸ hz) ha
  exact hl (by rw [this]; exact ho)
theorem frame2 {x y y1 y2 z : Str} {u M : Str → Option Value} {a b c d e : Option Value} (h1 : z ≠ x) (h3 : z ≠ y) (h2 : [y1, y2].contains z = false) :
    (if z = y then a else if z = y2 then b else if z = y1 then c else if z = x then d else if z = y then e else anyBut [y1, y2] u M z) = M z := by
  obtain ⟨n1, n2⟩ := contains_two h2
  rw [if_neg h3, if_neg n2, if_neg n1, if_neg h1, if_neg h3]
  unfold anyBut
  rw [h2]
  rfl
theorem Inv.mudict {w : World} {G : Gram} {c : Mt} {P : List (Addr × Nat)} {Z : List Addr} {g : Gh} {news : Led} (h : Inv w G c P Z g news) : ∀ a ∈ g.mu G c, ∃ o, (a, o) ∈ news ∧ o.cls = dT := by
  intro a ha
  unfold Gh.mu at ha
  simp only [List.mem_append, List.mem_map, List.mem_cons] at ha
  rcases ha with ⟨x, hx, rfl⟩ | rfl | rfl | ha
  · obtain ⟨prs, ⟨_, n, h1⟩ | ⟨_, _, _, _, _, h1, _⟩, _⟩ := h.oids x hx
    · exact ⟨_, h1, rfl⟩
    · exact ⟨_, h1, rfl⟩
  · obtain ⟨_, _, _, _, _, _, _, _, _, _, _, _, _, _, h1, _⟩ := h.err; exact ⟨_, h1, rfl⟩
  · obtain ⟨o, _, h1, h2, _⟩ := h.cache; exact ⟨o, h1, dict_cls h2⟩
  · exact h.dsd a ha
theorem N0.less {G : Gram} {Mu Z : List Addr} {a : Addr} {news : Led} {nd x : Addr} {p q : Nat} (h : N0 G (Mu ++ a :: Z) news nd x p q) : N0 G (Mu ++ Z) news nd x p q := h.map fun _ _ _ _ _ n => n.wide fun b hb => .inl (by
  rcases List.mem_append.mp hb with hb | hb
  · exact List.mem_append_left _ hb
  · exact List.mem_append_right _ (.tail _ hb))
end
section
theorem off_U1 : True := by
  w_top off
  exact True.intro
local macro_rules | `(tactic| walk_at "off 0") => `(tactic| fail)
local macro_rules | `(tactic| walk_at "off 1") => `(tactic| fail)
theorem unr_U1 {a b : Nat} (h : a < b) : a < b := h
local macro_rules | `(tactic| k_room) => `(tactic| ((try simp only [depth_under_make, depth_under_kw, depth_in1, depth_deeper, depth_caller]); (try dsimp only [ktrTop]); (try simp only [recursionLimit]); omega))
local macro_rules | `(tactic| k_units) => `(tactic| ((try simp only [units_in1, units_deeper, Around.mark_units, units_caller]); (try dsimp only [ktrTop]); (try simp only [cLine]); omega))
local macro_rules | `(tactic| k_enter) => `(tactic| (refine' code_def ?k1 ?k2 ?k3 ?k4 ?k5 ?kA ?kF ?kK ?k6 ?k7 ?k8 ?k9 ?kB ?_ ?c2 ?c3 ?c4 ?c5; (case kA => exact rfl); (case kF => exact rfl); (case kK => first | assumption | exact rfl); (case k1 => k_asm); (case k2 => k_asm); (case k3 => k_asm); (case k4 => k_asm); (case k5 => k_asm); (case k6 => k_is); (case k7 => k_is); (case k8 => k_room); (case k9 => first | exact BindsTo.of_eq rfl | exact binds_K (by k_in) rfl (by k_is) rfl rfl rfl | fail "k_enter: no rule for these arguments"); (case c5 => decide); (case kB => exact locs rfl); (case c2 => exact rfl); (case c3 => exact rfl); (case c4 => exact rfl); k_whole; intro g' L' h' FG' F' N' B' X' T'; (try dsimp only); (try k_lift B'); (try k_fold)))
local macro_rules | `(tactic| k_all) => `(tactic| (refine ne_of_below (by assumption) ?_; first | exact Nat.le_refl _ | omega))
local macro_rules | `(tactic| k_mem) => `(tactic| first | exact List.Mem.head _ | (refine List.Mem.tail _ ?_; k_mem) | assumption)
local macro_rules | `(tactic| walk_at "my node") => `(tactic| (k_dflt (refine' Does.use (node_new _ _ _ ?hMu _ _ _ _ _ _ _) ?B ?F ?X ?N ?T ?k ?d ?u ?_; (case hMu => assumption); (case B => k_asm); (case F => k_asm); (case X => k_asm); (case N => k_asm); (case T => k_asm); (case k => exact rfl); (case d => k_room); (case u => k_units); intro r9 n9 h9 t9 F9 N9 R9; obtain ⟨K9, nd9, e9, R9⟩ := R9; subst e9; (try dsimp only); (try k_fold))))
local macro_rules | `(tactic| walk_at "my member") => `(tactic| (k_dflt (refine' Does.use (MCt.app ?ih ?hI) ?B ?F ?X ?N ?T ?k ?d ?u ?_; (case ih => assumption); (case hI => assumption); (case B => k_asm); (case F => k_asm); (case X => k_asm); (case N => k_asm); (case T => k_asm); (case k => exact rfl); (case d => k_room); (case u => k_units); intro r9 n9 h9 t9 F9 N9 R9; (try dsimp only); (try k_fold); refine stop ?_)))
local macro_rules | `(tactic| walk_at "call ref") => `(tactic| (k_here; first | walk_at "my node" | walk_at "my member" | refine stop ?_))
local macro_rules | `(tactic| walk_at "getMethod ref") => `(tactic| (k_here; k_dflt (refine' mc_method ?X ?F ?N ?hE ?hO ?_; (case X => k_asm); (case F => k_asm); (case N => k_asm); (case hE => assumption); (case hO => assumption))))
theorem neg_um (w : World) (G : Gram) (hG : G.Ok) (c : Mt) (P : List (Addr × Nat)) (x m : Addr) (p : Nat) (hx : x ∈ G.xs) (hk : G.kind x = .neg m) (hp : p ≤ G.text.length) (IH : MCt w G c P m p)
    (Z : List Addr) (g : Gh) (news : Led) (tt tp : Tok) (hI : Inv w G c P Z g news) :
    Does w (2 * G.rk x p + 39) (20 * G.rk x p + 190) (call (.ref 478) [.ref x, .str G.text tt, .int p tp, .ref c.C, .ref c.e]) news (MRes w G c P Z x p g news) := by
  have hm : m ∈ G.xs := hG.kids x hx m (by rw [hk]; exact .head _)
  have hE := hI.expr x hx
  obtain ⟨od, hdx⟩ := hI.dxin hx
  obtain ⟨prs, hO, _⟩ := hI.oids m hm
  have hEm := hI.expr m hm
  have hq := hG.eqn x hx p hp
  rw [hk] at hq
  dsimp only at hq
  obtain ⟨hden, hrk⟩ := hq
  unfold ExprAt at hE
  rw [hk] at hE
  dsimp only at hE
  obtain ⟨t, k, nm, nt, idt, hx1, ht1⟩ := hE
  unfold Does
  k_fill
  intro dp un gd cn cs a ccd cl outer A₀ base h₀ L mm s loose mean mg mb Q E B F X N T hkk hdp hun hret
  refine wpAny_call ?_
  k_enter
  k_steps
  refine unstop ?_
  rename MRes _ _ _ _ _ _ _ _ _ _ _ => R9
  obtain ⟨g1, I1, S1, hr⟩ := R9
  clear hx1 ht1 hdx hO hEm
  have hE := I1.expr x hx
  obtain ⟨od, hdx⟩ := I1.dxin hx
  unfold ExprAt at hE
  rw [hk] at hE
  dsimp only at hE
  obtain ⟨t, k, nm, nt, idt, hx1, ht1⟩ := hE
  have hMu := I1.muin
  unfold Res at hr
  cases hd : G.den m p with
  | none =>
    rw [hd] at hr hden
    dsimp only at hr
    subst hr
    k_steps
    rename NodeB _ _ _ _ _ _ _ _ => B9
    rename (∀ z, z ∈ _ → z ∈ _) => K9
    refine hret _ _ _ _ (by assumption) (by assumption) ⟨g1, I1.mono K9, S1.trans (.of_sub K9), ?_⟩
    unfold Res
    rw [hden]
    exact ⟨_, rfl, [], B9, fun l r e => (by rw [hk] at e; cases e), fun ms e => (by rw [hk] at e; cases e)⟩
  | some q =>
    rw [hd] at hr hden
    obtain ⟨nd, e9, hn2⟩ := hr
    subst e9
    k_steps
    refine hret _ _ _ _ (by assumption) (by assumption) ⟨g1, I1, S1, ?_⟩
    unfold Res
    rw [hden]
end
section
theorem off_U2 : True := by
  w_top off
  exact True.intro
local macro_rules | `(tactic| walk_at "off 0") => `(tactic| fail)
local macro_rules | `(tactic| walk_at "off 1") => `(tactic| fail)
local macro_rules | `(tactic| walk_at "off 2") => `(tactic| fail)
local macro_rules | `(tactic| walk_at "off 3") => `(tactic| fail)
local macro_rules | `(tactic| walk_at "off 4") => `(tactic| fail)
local macro_rules | `(tactic| walk_at "off 5") => `(tactic| fail)
local macro_rules | `(tactic| walk_at "off 6") => `(tactic| fail)
theorem unr_U2 {a b : Nat} (h : a < b) : a < b := h
local macro_rules | `(tactic| k_room) => `(tactic| ((try simp only [depth_under_make, depth_under_kw, depth_in1, depth_deeper, depth_caller]); (try dsimp only [ktrTop]); (try simp only [recursionLimit]); omega))
local macro_rules | `(tactic| k_units) => `(tactic| ((try simp only [units_in1, units_deeper, Around.mark_units, units_caller]); (try dsimp only [ktrTop]); (try simp only [cLine]); omega))
local macro_rules | `(tactic| k_enter) => `(tactic| (refine' code_def ?k1 ?k2 ?k3 ?k4 ?k5 ?kA ?kF ?kK ?k6 ?k7 ?k8 ?k9 ?kB ?_ ?c2 ?c3 ?c4 ?c5; (case kA => exact rfl); (case kF => exact rfl); (case kK => first | assumption | exact rfl); (case k1 => k_asm); (case k2 => k_asm); (case k3 => k_asm); (case k4 => k_asm); (case k5 => k_asm); (case k6 => k_is); (case k7 => k_is); (case k8 => k_room); (case k9 => first | exact BindsTo.of_eq rfl | exact binds_K (by k_in) rfl (by k_is) rfl rfl rfl | fail "k_enter: no rule for these arguments"); (case c5 => decide); (case kB => exact locs rfl); (case c2 => exact rfl); (case c3 => exact rfl); (case c4 => exact rfl); k_whole; intro g' L' h' FG' F' N' B' X' T'; (try dsimp only); (try k_lift B'); (try k_fold)))
local macro_rules | `(tactic| k_all) => `(tactic| (refine ne_of_below (by assumption) ?_; first | exact Nat.le_refl _ | omega))
local macro_rules | `(tactic| k_mem) => `(tactic| first | exact List.Mem.head _ | (refine List.Mem.tail _ ?_; k_mem) | assumption)
theorem onePre {den : Addr → Nat → Option Nat} {ms : List Addr} {p : Nat} : ∀ {i : Nat}, (∀ j, j < i → ∀ m, ms[j]? = some m → den m p = none) → oneDen den ms p = oneDen den (ms.drop i) p ∧ ∀ c, oneAt den (ms.drop i) p c → oneAt den ms p c := by
  induction ms with
  | nil => intro i _; cases i <;> exact ⟨rfl, fun _ h => h⟩
  | cons a r ih =>
    intro i h
    cases i with
    | zero => exact ⟨rfl, fun _ h => h⟩
    | succ i =>
      have h0 := h 0 (Nat.succ_pos _) a rfl
      obtain ⟨e1, e2⟩ := ih (i := i) fun j hj m hm => h (j + 1) (Nat.succ_lt_succ hj) m hm
      refine ⟨?_, fun c hc => .inr ⟨h0, e2 c hc⟩⟩
      show (match den a p with | some q => some q | none => oneDen den r p) = _
      rw [h0]; exact e1
local macro_rules | `(tactic| walk_at "my nodeK") => `(tactic| (k_dflt (refine' Does.use (node_newK _ _ _ ?hMu _ _ [_] _ _ _ _ _ _ _ ?hch ?hcM (by simp) (by simp)) ?B ?F ?X ?N ?T ?k ?d ?u ?_; (case N => k_asm); (case hMu => first | assumption | exact mu_tail (by assumption)); (case hch => k_mem); (case hcM => exact fresh_not (by assumption) (by assumption)); (case B => k_asm); (case F => k_asm); (case X => k_asm); (case T => k_asm); (case k => exact rfl); (case d => k_room); (case u => k_units); intro r9 n9 h9 t9 F9 N9 R9; obtain ⟨K9, nd9, e9, R9⟩ := R9; subst e9; (try dsimp only); (try k_fold))))
local macro_rules | `(tactic| walk_at "my member") => `(tactic| (k_dflt (refine' Does.use (MCt.app ?ih ?hI) ?B ?F ?X ?N ?T ?k ?d ?u ?_; (case ih => assumption); (case hI => assumption); (case B => k_asm); (case F => k_asm); (case X => k_asm); (case N => k_asm); (case T => k_asm); (case k => exact rfl); (case d => k_room); (case u => k_units); intro r9 n9 h9 t9 F9 N9 R9; (try dsimp only); (try k_fold); refine stop ?_)))
local macro_rules | `(tactic| walk_at "call ref") => `(tactic| (k_here; first | walk_at "my nodeK" | walk_at "my member" | refine stop ?_))
local macro_rules | `(tactic| walk_at "getMethod ref") => `(tactic| (k_here; k_dflt (refine' mc_method ?X ?F ?N ?hE ?hO ?_; (case X => k_asm); (case F => k_asm); (case N => k_asm); (case hE => assumption); (case hO => assumption))))
theorem one_um (w : World) (G : Gram) (hG : G.Ok) (c : Mt) (P : List (Addr × Nat)) (x : Addr) (ms : List Addr) (p : Nat) (hx : x ∈ G.xs) (hk : G.kind x = .one ms) (hp : p ≤ G.text.length)
    (IH : ∀ m q, m ∈ G.xs → q ≤ G.text.length → G.rk m q < G.rk x p → MCt w G c P m q) (Z : List Addr) (g : Gh) (news : Led) (tt tp : Tok) (hI : Inv w G c P Z g news) :
    Does w (2 * G.rk x p + 39) (20 * G.rk x p + 190) (call (.ref 441) [.ref x, .str G.text tt, .int p tp, .ref c.C, .ref c.e]) news (MRes w G c P Z x p g news) := by
  have hE := hI.expr x hx
  obtain ⟨od, hdx⟩ := hI.dxin hx
  have hq := hG.eqn x hx p hp
  rw [hk] at hq
  dsimp only at hq
  obtain ⟨hml, hden, hrk⟩ := hq
  unfold ExprAt at hE
  rw [hk] at hE
  dsimp only at hE
  obtain ⟨t, k, nm, nt, idt, hx1, ht1⟩ := hE
  unfold Does
  k_fill
  intro dp un gd cn cs a ccd cl outer A₀ base h₀ L mm s loose mean mg mb Q E B F X N T hkk hdp hun hret
  refine wpAny_call ?_
  k_enter
  refine wpAny_execs_cons ?_
  rename Fr _ _ _ _ => F1
  refine For_invVF F1 rfl rfl ?_
  k_steps
  rename News _ _ _ _ => N1
  refine tup_loopU [Str.ofString "node"] (by rfl) ht1 F1 N1 (fun i n₁ => ∃ g1, Inv w G c P Z g1 n₁ ∧ Step (g.mu G c) (g1.mu G c) news n₁ ∧ ∀ j, j < i → ∀ m, ms[j]? = some m → G.den m p = none) ?mono ⟨g, hI, .refl, fun j hj => absurd hj (Nat.not_lt_zero _)⟩ ?turn ?done
  case mono =>
    rintro I hI' i n n' ⟨g1, I1, S1, h1⟩ k
    obtain ⟨I2, S2⟩ := I1.aside S1 hI' (zin_old S1 hI' hI.zin) k
    exact ⟨g1, I2, S2, h1⟩
  case turn =>
    rintro i v u n₁ h tk hv ⟨g1, I1, S1, h1⟩ F₁ N₁
    have hm : ∃ m, ms[i]? = some m ∧ v = .ref m := by
      rw [List.getElem?_map] at hv
      cases e : ms[i]? with
      | none => rw [e] at hv; cases hv
      | some m => rw [e] at hv; exact ⟨m, rfl, (Option.some.inj hv).symm⟩
    obtain ⟨m, hmi, rfl⟩ := hm
    have hmm : m ∈ ms := List.mem_of_getElem? hmi
    have hmx : m ∈ G.xs := hG.kids x hx m (by rw [hk]; exact hmm)
    have hlt := hrk m hmm
    have IHm := IH m p hmx hp hlt
    obtain ⟨prs, hO, _⟩ := I1.oids m hmx
    have hEm := I1.expr m hmx
    clear hx1 ht1 hdx N1 F1
    k_steps
    refine unstop ?_
    rename MRes _ _ _ _ _ _ _ _ _ _ _ => R9
    obtain ⟨g2, I2, S2, hr⟩ := R9
    clear hO hEm
    have hE := I2.expr x hx
    obtain ⟨od, hdx⟩ := I2.dxin hx
    unfold ExprAt at hE
    rw [hk] at hE
    dsimp only at hE
    obtain ⟨t', k', nm', nt', idt', hx1, ht1⟩ := hE
    have hMu := I2.muin
    unfold Res at hr
    cases hd : G.den m p with
    | none =>
      rw [hd] at hr
      dsimp only at hr
      subst hr
      k_steps
      refine turn_next (by assumption) (by assumption) (fun z hz h1 _ => S2.kept z hz (.inl h1)) ⟨fun z h1 h2 => frame1 h1 h2, g2, I2, S1.trans S2, fun j hj m' hm' => ?_⟩
      rcases Nat.lt_succ_iff_lt_or_eq.mp hj with hj | rfl
      · exact h1 j hj m' hm'
      · rw [hmi] at hm'; cases hm'; exact hd
    | some q =>
      rw [hd] at hr
      obtain ⟨nd, e9, hn2⟩ := hr
      subst e9
      obtain ⟨items, ⟨dxn, chn, ttn, tpn, tqn, kn, odn, hn1, hn2', hn3, hn4, hn5⟩, hnr⟩ := id hn2
      k_steps
      rename NodeB _ _ _ _ _ _ _ _ => B9
      rename (∀ z, z ∈ _ → z ∈ _) => K9
      have K8 := drop1 K9
      refine turn_ret ?_
      k_steps
      refine hret _ _ _ _ (by assumption) (by assumption) ⟨g2, I2.mono K8, (S1.trans S2).trans (.of_sub K8), ?_⟩
      have hdr : ms.drop i = m :: ms.drop (i + 1) := by
        obtain ⟨hlt', e⟩ := List.getElem?_eq_some_iff.mp hmi
        rw [← e]; exact List.drop_eq_getElem_cons hlt'
      obtain ⟨e1, e2⟩ := onePre h1
      rw [hdr] at e1 e2
      have e3 : G.den x p = some q := by
        rw [hden, e1]
        show (match G.den m p with | some q => some q | none => oneDen G.den _ p) = _
        rw [hd]
      unfold Res
      rw [e3]
      exact ⟨_, rfl, _, B9, fun l r e => (by rw [hk] at e; cases e), fun ms' e => (by
        rw [hk] at e; cases e
        exact ⟨nd, m, [], rfl, e2 m (.inl ⟨rfl, by rw [hd]; rfl⟩), hd, hn2.n1.map fun _ _ _ _ _ b => b.asked fun z hz _ _ => K8 z hz⟩)⟩
  case done =>
    rintro u n₁ h tk ⟨g1, I1, S1, h1⟩ F₁ N₁
    k_steps
    refine hret _ _ _ _ (by assumption) (by assumption) ⟨g1, I1, S1, ?_⟩
    obtain ⟨e1, _⟩ := onePre h1
    rw [List.length_map, List.drop_length] at e1
    unfold Res
    rw [hden, e1]
    rfl
end
section
theorem off_U3 : True := by
  w_top off
  exact True.intro
theorem unr_U3 {a b : Nat} (h : a < b) : a < b := h
local macro_rules | `(tactic| k_room) => `(tactic| ((try simp only [depth_under_make, depth_under_kw, depth_in1, depth_deeper, depth_caller]); (try dsimp only [ktrTop]); (try simp only [recursionLimit]); omega))
local macro_rules | `(tactic| k_units) => `(tactic| ((try simp only [units_in1, units_deeper, Around.mark_units, units_caller]); (try dsimp only [ktrTop]); (try simp only [cLine]); omega))
local macro_rules | `(tactic| k_enter) => `(tactic| (refine' code_def ?k1 ?k2 ?k3 ?k4 ?k5 ?kA ?kF ?kK ?k6 ?k7 ?k8 ?k9 ?kB ?_ ?c2 ?c3 ?c4 ?c5; (case kA => exact rfl); (case kF => exact rfl); (case kK => first | assumption | exact rfl); (case k1 => k_asm); (case k2 => k_asm); (case k3 => k_asm); (case k4 => k_asm); (case k5 => k_asm); (case k6 => k_is); (case k7 => k_is); (case k8 => k_room); (case k9 => first | exact BindsTo.of_eq rfl | exact binds_K (by k_in) rfl (by k_is) rfl rfl rfl | fail "k_enter: no rule for these arguments"); (case c5 => decide); (case kB => exact locs rfl); (case c2 => exact rfl); (case c3 => exact rfl); (case c4 => exact rfl); k_whole; intro g' L' h' FG' F' N' B' X' T'; (try dsimp only); (try k_lift B'); (try k_fold)))
local macro_rules | `(tactic| k_all) => `(tactic| (refine ne_of_below (by assumption) ?_; first | exact Nat.le_refl _ | omega))
local macro_rules | `(tactic| k_mem) => `(tactic| first | exact List.Mem.head _ | (refine List.Mem.tail _ ?_; k_mem) | assumption)
local macro_rules | `(tactic| walk_at "my member") => `(tactic| (k_dflt (refine' Does.use (MCt.app ?ih ?hI) ?B ?F ?X ?N ?T ?k ?d ?u ?_; (case ih => assumption); (case hI => assumption); (case B => k_asm); (case F => k_asm); (case X => k_asm); (case N => k_asm); (case T => k_asm); (case k => exact rfl); (case d => k_room); (case u => k_units); intro r9 n9 h9 t9 F9 N9 R9; (try dsimp only); (try k_fold); refine stop ?_)))
local macro_rules | `(tactic| walk_at "call ref") => `(tactic| (k_here; first | walk_at "my member" | refine stop ?_))
local macro_rules | `(tactic| walk_at "getMethod ref") => `(tactic| (k_here; k_dflt (refine' mc_method ?X ?F ?N ?hE ?hO ?_; (case X => k_asm); (case F => k_asm); (case N => k_asm); (case hE => assumption); (case hO => assumption))))
local macro_rules | `(tactic| walk_at "pyIter ref") => `(tactic| refine stop ?_)
local macro_rules | `(tactic| walk_at "call builtin:list.append") => `(tactic| refine stop ?_)
theorem seq_um (w : World) (G : Gram) (hG : G.Ok) (c : Mt) (P : List (Addr × Nat)) (x : Addr) (ms : List Addr) (p : Nat) (hx : x ∈ G.xs) (hk : G.kind x = .seq ms) (hp : p ≤ G.text.length)
    (IH : ∀ m q, m ∈ G.xs → q ≤ G.text.length → G.rk m q < G.rk x p → MCt w G c P m q) (Z : List Addr) (g : Gh) (news : Led) (tt tp : Tok) (hI : Inv w G c P Z g news) :
    Does w (2 * G.rk x p + 39) (20 * G.rk x p + 190) (call (.ref 415) [.ref x, .str G.text tt, .int p tp, .ref c.C, .ref c.e]) news (MRes w G c P Z x p g news) := by
  have hE := hI.expr x hx
  obtain ⟨od, hdx⟩ := hI.dxin hx
  have hq := hG.eqn x hx p hp
  rw [hk] at hq
  dsimp only at hq
  obtain ⟨hmn, hml, hden, hrk⟩ := hq
  unfold ExprAt at hE
  rw [hk] at hE
  dsimp only at hE
  obtain ⟨t, k, nm, nt, idt, hx1, ht1⟩ := hE
  unfold Does
  k_fill
  intro dp un gd cn cs a ccd cl outer A₀ base h₀ L mm s loose mean mg mb Q E B F X N T hkk hdp hun hret
  refine wpAny_call ?_
  k_enter
  k_steps
  refine unstop ?_
  rename_i ch hA1 hl1 hA2 lF N1
  have hlt0 : ∀ z ∈ news, z.1 < ch := hl1
  refine tup_loopT (Str.ofString "new_pos") [Str.ofString "node", Str.ofString "length"] (v₀ := .int p tp) (by rfl) (.tail _ ht1) lF N1 (by rfl) (by decide) (fun i v n₁ => ∃ (g1 : Gh) (q : Nat) (tk : Tok) (items : List Value) (kk : Nat), v = .int q tk ∧ Inv w G c P (ch :: Z) g1 n₁ ∧ Step (g.mu G c) (g1.mu G c) news n₁ ∧
    (ch, W.listOf items.toArray kk) ∈ n₁ ∧ items.length = i ∧ q ≤ G.text.length ∧ seqDen G.den ms p = seqDen G.den (ms.drop i) q ∧ seqRk G.den G.rk (G.rk x p) (ms.drop i) q ∧
    (i = 0 → q = p) ∧ ∀ l r, ms = l :: r → 0 < i → ∃ nl q1 rest, items = .ref nl :: rest ∧ G.den l p = some q1 ∧ N0 G (g1.mu G c ++ ch :: Z) n₁ nl l p q1) ?mono ?h0 ?turn ?done
  case mono =>
    rintro I hI' i v n n' ⟨g1, q, tk, items, kk, e, I1, S1, h1, h2, h3, h4, h5, h7, h6⟩ k
    have hI2 : ∀ z ∈ news, z.1 < I := fun z hz => hI' z (.tail _ hz)
    have hchI : ch < I := hI' _ (.head _)
    obtain ⟨I2, S2⟩ := I1.aside S1 hI2 (fun a ha => by
      rcases List.mem_cons.mp ha with rfl | ha
      · exact ⟨_, h1, .inl (Nat.ne_of_lt hchI)⟩
      · exact zin_old S1 hI2 hI.zin a ha) k
    exact ⟨g1, q, tk, items, kk, e, I2, S2, k _ h1 (.inr (Nat.ne_of_lt hchI)), h2, h3, h4, h5, h7, fun l r e1 e2 => let ⟨nl, q1, rest, a1, a2, a3⟩ := h6 l r e1 e2; ⟨nl, q1, rest, a1, a2, a3.map fun _ _ _ _ _ b => b.asked fun z hz ha _ => k z hz (.inl ha)⟩⟩
  case h0 =>
    exact ⟨g, p, tp, [], 0, rfl, hI.more hl1, .of_sub fun z hz => .tail _ hz, .head _, rfl, hp, rfl, hrk, fun _ => rfl, fun _ _ _ h => absurd h (Nat.lt_irrefl _)⟩
  case turn =>
    rintro i v c0 u n₁ h tk hv ⟨g1, q, tkq, items, kk, rfl, I1, S1, h1, h2, h3, h4, h5, h7, h6⟩ F₁ N₁
    have hm : ∃ m, ms[i]? = some m ∧ v = .ref m := by
      rw [List.getElem?_map] at hv
      cases e : ms[i]? with
      | none => rw [e] at hv; cases hv
      | some m => rw [e] at hv; exact ⟨m, rfl, (Option.some.inj hv).symm⟩
    obtain ⟨m, hmi, rfl⟩ := hm
    have hdr : ms.drop i = m :: ms.drop (i + 1) := by
      obtain ⟨hlt', e⟩ := List.getElem?_eq_some_iff.mp hmi
      rw [← e]; exact List.drop_eq_getElem_cons hlt'
    rw [hdr] at h4 h5
    obtain ⟨hlt, h5⟩ := h5
    have hil : i < ms.length := (List.getElem?_eq_some_iff.mp hmi).1
    have hmm : m ∈ ms := List.mem_of_getElem? hmi
    have hmx : m ∈ G.xs := hG.kids x hx m (by rw [hk]; exact hmm)
    have IHm := IH m q hmx h3 hlt
    obtain ⟨prs, hO, _⟩ := I1.oids m hmx
    have hEm := I1.expr m hmx
    clear hx1 ht1 hdx N1 lF hl1
    k_steps
    refine unstop ?_
    rename MRes _ _ _ _ _ _ _ _ _ _ _ => R9
    obtain ⟨g2, I2, S2, hr⟩ := R9
    clear hO hEm
    have S12 := S1.trans S2
    have hE := I2.expr x hx
    obtain ⟨od, hdx⟩ := I2.dxin hx
    unfold ExprAt at hE
    rw [hk] at hE
    dsimp only at hE
    obtain ⟨t', k', nm', nt', idt', hx1, ht1⟩ := hE
    have h1' := S2.kept _ h1 (.inl ne_list)
    unfold Res at hr
    cases hd : G.den m q with
    | none =>
      rw [hd] at hr
      dsimp only at hr
      subst hr
      k_steps
      refine turn_ret ?_
      k_steps
      refine hret _ _ _ _ (by assumption) (by assumption) ⟨g2, I2.less, S12, ?_⟩
      unfold Res
      rw [hden, h4]
      show match (match G.den m q with | none => none | some q' => seqDen G.den (ms.drop (i + 1)) q') with | none => _ | some _ => _
      rw [hd]
    | some q2 =>
      rw [hd] at hr
      obtain ⟨nd, e9, hn2⟩ := hr
      subst e9
      have hn0 := hn2.n1.n0
      have hb := hG.bound m hmx q q2 h3 hd
      k_steps
      refine unstop ?_
      rename News _ _ _ _ => N4
      refine app_any (by assumption) N4 h1' (by omega) ?_
      intro hp5 n5 F5 N5 hc5 k5
      have kb := kept_but (Z := Z) N4 h1' rfl k5
      obtain ⟨I3, S3⟩ := I2.turned N4 S12 h1' rfl hlt0 hc5 k5
      have hn3 : N0 G (g2.mu G c ++ ch :: Z) n5 nd m q q2 := hn0.map fun _ _ _ _ _ b => b.asked kb
      obtain ⟨itm, dxn, chn, ttn, tpn, tqn, kn, odn, hn1, hn2', hn3', hn4, hn5⟩ := id hn3
      have kn := kept_nl N4 h1' rfl k5
      clear N4
      k_steps
      have e9 : (q : Int) + ((q2 : Int) - (q : Int)) = (q2 : Int) := by omega
      rename Fr _ _ _ _ => F8
      rename News _ _ _ _ => N8
      refine turn_next F8 N8 (fun z hz a b => kn z (S2.kept z hz (.inl a)) b) ⟨fun z a1 a2 a3 => frame2 a1 a2 a3, _, rfl, g2, q2, _, items ++ [.ref nd], kk + 1, by rw [e9], I3, S3, hc5, by simp [h2], hb.2, h4.trans ?_, ?_, fun e => absurd e (Nat.succ_ne_zero _), fun l r el _ => ?_⟩
      · show (match G.den m q with | none => none | some q' => seqDen G.den (ms.drop (i + 1)) q') = _
        rw [hd]
      · rw [hd] at h5; exact h5
      · by_cases hi0 : i = 0
        · subst hi0
          have hq := h7 rfl
          subst hq
          have hi1 : items = [] := List.length_eq_zero_iff.mp h2
          subst hi1
          rw [el] at hmi
          cases hmi
          exact ⟨nd, q2, [], rfl, hd, hn3⟩
        · obtain ⟨nl, q1, rest, a1, a2, a3⟩ := h6 l r el (Nat.pos_of_ne_zero hi0)
          exact ⟨nl, q1, rest ++ [.ref nd], by rw [a1]; rfl, a2, (a3.step S2).map fun _ _ _ _ _ b => b.asked kb⟩
  case done =>
    rintro c0 u n₁ h tk ⟨g1, q, tkq, items, kk, rfl, I1, S1, h1, h2, h3, h4, h5, h7, h6⟩ F₁ N₁
    clear lF N1 hx1 ht1 hdx
    k_steps
    refine unstop ?_
    have I2 := I1.less
    have hMu := I2.muin
    have hcM : ch ∉ g1.mu G c ++ Z := fun hm => by
      rcases List.mem_append.mp hm with hm | hm
      · obtain ⟨o, a, b⟩ := I1.mudict ch hm
        have e := sameAddr N₁ a h1
        rw [e] at b
        exact absurd b ne_list
      · obtain ⟨o, a⟩ := hI.zin ch hm
        exact Nat.lt_irrefl _ (hlt0 _ a)
    have hml2 : items.length = ms.length := by rw [h2, List.length_map]
    have hin : items ≠ [] := fun e => hmn (List.length_eq_zero_iff.mp (by rw [← hml2, e]; rfl))
    k_dflt (refine' Does.use (node_new5 w n₁ (g1.mu G c ++ Z) hMu x ch items kk G.text tt p q tp tkq h1 hcM hin (by omega)) ?B ?F ?X ?N ?T ?k ?d ?u ?_)
    case B => k_asm
    case F => k_asm
    case X => k_asm
    case N => k_asm
    case T => k_asm
    case k => exact rfl
    case d => k_room
    case u => k_units
    intro r9 n9 h9 t9 F9 N9 R9
    obtain ⟨K9, nd9, e9, B9⟩ := R9
    subst e9
    k_steps
    refine hret _ _ _ _ (by assumption) (by assumption) ⟨g1, I2.mono K9, S1.trans (.of_sub K9), ?_⟩
    rw [List.length_map, List.drop_length] at h4
    unfold Res
    rw [hden, h4]
    refine ⟨nd9, rfl, items, B9, fun l r e => ?_, fun ms' e => (by rw [hk] at e; cases e)⟩
    rw [hk] at e
    cases e
    obtain ⟨nl, q1, rest, a1, a2, a3⟩ := h6 l r rfl (by simp)
    exact ⟨nl, q1, rest, a1, a2, a3.less.map fun _ _ _ _ _ b => b.asked fun z hz _ _ => K9 z hz⟩
end
section
theorem off_U4 : True := by
  w_top off
  exact True.intro
theorem unr_U4 {a b : Nat} (h : a < b) : a < b := h
local macro_rules | `(tactic| k_room) => `(tactic| ((try simp only [depth_under_make, depth_under_kw, depth_in1, depth_deeper, depth_caller]); (try dsimp only [ktrTop]); (try simp only [recursionLimit]); omega))
local macro_rules | `(tactic| k_units) => `(tactic| ((try simp only [units_in1, units_deeper, Around.mark_units, units_caller]); (try dsimp only [ktrTop]); (try simp only [cLine]); omega))
local macro_rules | `(tactic| k_enter) => `(tactic| (refine' code_def ?k1 ?k2 ?k3 ?k4 ?k5 ?kA ?kF ?kK ?k6 ?k7 ?k8 ?k9 ?kB ?_ ?c2 ?c3 ?c4 ?c5; (case kA => exact rfl); (case kF => exact rfl); (case kK => first | assumption | exact rfl); (case k1 => k_asm); (case k2 => k_asm); (case k3 => k_asm); (case k4 => k_asm); (case k5 => k_asm); (case k6 => k_is); (case k7 => k_is); (case k8 => k_room); (case k9 => first | exact BindsTo.of_eq rfl | exact binds_K (by k_in) rfl (by k_is) rfl rfl rfl | fail "k_enter: no rule for these arguments"); (case c5 => decide); (case kB => exact locs rfl); (case c2 => exact rfl); (case c3 => exact rfl); (case c4 => exact rfl); k_whole; intro g' L' h' FG' F' N' B' X' T'; (try dsimp only); (try k_lift B'); (try k_fold)))
local macro_rules | `(tactic| k_all) => `(tactic| (refine ne_of_below (by assumption) ?_; first | exact Nat.le_refl _ | omega))
local macro_rules | `(tactic| k_mem) => `(tactic| first | exact List.Mem.head _ | (refine List.Mem.tail _ ?_; k_mem) | assumption)
theorem Does.weaken {w : World} {kd ku kd' ku' : Nat} {t : Sem Value} {news : Led} {R R' : Value → Led → Prop} (C : Does w kd ku t news R) (h1 : kd ≤ kd') (h2 : ku ≤ ku') (h : ∀ r n, R r n → R' r n) : Does w kd' ku' t news R' :=
  fun dp un gd cn cs a ccd cl outer A₀ base h₀ L m s loose mean mg mb Q E B F X N T hk hd hu k =>
    C dp un gd cn cs a ccd cl outer A₀ base h₀ L m s loose mean mg mb Q E B F X N T hk (by omega) (by omega) fun r news' h' tk' F' N' z => k r news' h' tk' F' N' (h r news' z)
theorem any_um (w : World) (G : Gram) (hG : G.Ok) (c : Mt) (P : List (Addr × Nat)) (x : Addr) (p : Nat) (hx : x ∈ G.xs) (hp : p ≤ G.text.length)
    (IH : ∀ m q, m ∈ G.xs → q ≤ G.text.length → G.rk m q < G.rk x p → MCt w G c P m q) (Z : List Addr) (g : Gh) (news : Led) (tt tp : Tok) (hI : Inv w G c P Z g news) :
    Does w (2 * G.rk x p + 39) (20 * G.rk x p + 190) (call (.ref (umOf (G.kind x))) [.ref x, .str G.text tt, .int p tp, .ref c.C, .ref c.e]) news (MRes w G c P Z x p g news) := by
  cases hk : G.kind x with
  | lit wd =>
    have hE := hI.expr x hx
    obtain ⟨od, hdx⟩ := hI.dxin hx
    have hq := hG.eqn x hx p hp
    rw [hk] at hq
    dsimp only at hq
    unfold ExprAt at hE
    rw [hk] at hE
    dsimp only at hE
    obtain ⟨tw, nm, nt, idt, hx1⟩ := hE
    refine (lit_um w news (g.mu G c ++ Z) hI.muin x (G.dx x) (.str nm.1 nt) idt wd G.text tw tt tp p c.C c.e od hx1 hdx hq.1).weaken (by omega) (by omega) fun r n h => ?_
    obtain ⟨K, h⟩ := h
    refine ⟨g, hI.mono K, .of_sub K, ?_⟩
    unfold Res
    rw [hq.2]
    split at h
    · rename_i hs
      rw [if_pos hs]
      obtain ⟨nd, e, B⟩ := h
      exact ⟨nd, e, [], by rw [Int.natCast_add]; exact B, fun l r e => (by rw [hk] at e; cases e), fun ms e => (by rw [hk] at e; cases e)⟩
    · rename_i hs
      rw [if_neg hs]
      exact h
  | seq ms => exact seq_um w G hG c P x ms p hx hk hp IH Z g news tt tp hI
  | one ms => exact one_um w G hG c P x ms p hx hk hp IH Z g news tt tp hI
  | neg m =>
    have hq := hG.eqn x hx p hp
    rw [hk] at hq
    exact neg_um w G hG c P x m p hx hk hp (IH m p (hG.kids x hx m (by rw [hk]; exact .head _)) hp hq.2) Z g news tt tp hI
end
section
theorem off_Ga : True := by
  w_top off
  exact True.intro
local macro_rules | `(tactic| walk_at "off 0") => `(tactic| fail)
local macro_rules | `(tactic| walk_at "off 1") => `(tactic| fail)
local macro_rules | `(tactic| walk_at "off 2") => `(tactic| fail)
local macro_rules | `(tactic| walk_at "off 3") => `(tactic| fail)
local macro_rules | `(tactic| walk_at "off 4") => `(tactic| fail)
local macro_rules | `(tactic| walk_at "off 5") => `(tactic| fail)
theorem unr_Ga {a b : Nat} (h : a < b) : a < b := h
local macro_rules | `(tactic| k_room) => `(tactic| ((try simp only [depth_under_make, depth_under_kw, depth_in1, depth_deeper, depth_caller]); (try dsimp only [ktrTop]); (try simp only [recursionLimit]); omega))
local macro_rules | `(tactic| k_units) => `(tactic| ((try simp only [units_in1, units_deeper, Around.mark_units, units_caller]); (try dsimp only [ktrTop]); (try simp only [cLine]); omega))
local macro_rules | `(tactic| k_enter) => `(tactic| (refine' code_def ?k1 ?k2 ?k3 ?k4 ?k5 ?kA ?kF ?kK ?k6 ?k7 ?k8 ?k9 ?kB ?_ ?c2 ?c3 ?c4 ?c5; (case kA => exact rfl); (case kF => exact rfl); (case kK => first | assumption | exact rfl); (case k1 => k_asm); (case k2 => k_asm); (case k3 => k_asm); (case k4 => k_asm); (case k5 => k_asm); (case k6 => k_is); (case k7 => k_is); (case k8 => k_room); (case k9 => first | exact BindsTo.of_eq rfl | exact binds_K (by k_in) rfl (by k_is) rfl rfl rfl | fail "k_enter: no rule for these arguments"); (case c5 => decide); (case kB => exact locs rfl); (case c2 => exact rfl); (case c3 => exact rfl); (case c4 => exact rfl); k_whole; intro g' L' h' FG' F' N' B' X' T'; (try dsimp only); (try k_lift B'); (try k_fold)))
local macro_rules | `(tactic| k_all) => `(tactic| (refine ne_of_below (by assumption) ?_; first | exact Nat.le_refl _ | omega))
local macro_rules | `(tactic| k_mem) => `(tactic| first | exact List.Mem.head _ | (refine List.Mem.tail _ ?_; k_mem) | assumption)
open Builtin Builtin.ObjectAttr in
section
variable {w : World} {A : Around} {E : Value → Shared → Prop} {s : Shared} {h₀ : Heap} {L : Addr} {m : Str → Option Value} {news : Led} {Q : Value → Shared → Prop} {K : Frag} {x C : Addr} {ox od : Obj} {name : Str} {t : Tok}
theorem args_ga3 (a b c : Value) : argsOk "getattr" ⟨[a, b, c], []⟩ := by unfold argsOk; kernel_rfl
theorem gattr3 {a : Addr} {d : Value} (name : Str) (hn : (name != ("get_source" : Str)) = true) (hmod : Looks (model theProg w) s.heap (isInstance (.ref a) (.type "module")) false)
    (h : wpAny (model theProg w) A.in1 (getAttrBy? (.ref a) (.str name t)) (fun r s' => Q (r.getD d) s') E s) : wpAny (model theProg w) A (call (.builtin "getattr") [.ref a, .str name t, d]) Q E s := by
  obtain ⟨hh, g, dr, tk, os⟩ := s
  refine Calls.call_function_entry KB.kind_getattr KB.plain_getattr KB.entry_getattr (args_ga3 _ _ _) ?_
  unfold Builtin.«getattr»
  refine wpAny_bind (wpAny_of_eq (a := [.ref a, .str name t, d]) (by first | rfl | kernel_rfl) ?_)
  dsimp only
  refine wpAny_bind (wpAny_of_eq (a := ()) (by first | rfl | kernel_rfl) ?_)
  refine wpAny_bind ?_
  k_node
  dsimp only
  rw [if_pos hn]
  refine wpAny_pure ?_
  dsimp only
  refine wpAny_bind ?_
  k_node
  lk
  lk
  lk
  lk
  lk
  lk
  lk
  rw [if_pos (by decide)]
  refine wpAny_pure ?_
  rw [if_neg (by decide)]
  refine wpAny_bind (wpAny_mono h (fun r s' z => ?_) fun _ _ z => z)
  cases r with
  | none => rw [if_neg (by decide)]; exact wpAny_pure ⟨_, rfl, z⟩
  | some v => exact wpAny_pure ⟨_, rfl, z⟩

theorem gaby_open {Q : Option Value → Shared → Prop} (X : K.In s.heap) (I : InstAt s.heap x ox C (some od)) (hga : findIn K (.ref C) "__getattribute__" = some (some (.builtin "object.__getattribute__")))
    (h : wpAny (model theProg w) A.in1 (Builtin.«proto.getattr_hooked» ⟨[.ref x, .str name t], []⟩)
      (fun fin s' => match fin with | .done (.ret v) => wpAny (model theProg w) A (handedOut v) (fun v => Q (some v)) (fun _ _ => False) s' | _ => False)
      (fun e s' => wpAny (model theProg w) A (isInstance e (.type "AttributeError")) (fun b s'' => b = true ∧ Q none s'') (fun _ _ => False) s') s) :
    wpAny (model theProg w) A (getAttrBy? (.ref x) (.str name t)) Q E s := by
  obtain ⟨hh, g, d, tk, os⟩ := s
  have L0 := I.type (M := model theProg w)
  have L1 := looks_findIn (M := model theProg w) X hga
  unfold getAttrBy?
  refine wpAny_bind (wpAny_attempt ?_)
  unfold getAttrBy
  refine wpAny_holding (wpAny_bind (L0.at (wpAny_bind (L1.at ?_))))
  show wpAny _ _ (getAttrEveryday _ _ _) _ _ _
  unfold getAttrEveryday
  refine wpAny_bind (wpAny_onRaise (wpAny_runValue (codeAny_builtin F.plainObj_entry_getattr_hooked (wpAny_mono h (fun fin s' z => ?_) fun e s' z => ?_))))
  · rcases fin with (_ | _ | _ | v) | _
    · exact z.elim
    · exact z.elim
    · exact z.elim
    · exact wpAny_mono z (fun v s' z => wpAny_pure z) fun _ _ z => z.elim
    · exact z.elim
  · refine wpAny_pure ?_
    refine wpAny_bind (wpAny_mono z (fun b s'' z => ?_) fun _ _ z => z.elim)
    obtain ⟨rfl, z⟩ := z
    exact wpAny_pure z
theorem notMod {C : Addr} (X : K.In s.heap) (I : InstAt s.heap x ox C (some od)) (hm : mroIn K C (.type "module") = some false) : Looks (model theProg w) s.heap (isInstance (.ref x) (.type "module")) false :=
  I.type.andThen (looks_mroIn X hm)

/-- the attribute lies in its own dict -/
theorem ga_own {v d : Value} {es : List DictEntry} {n : Nat} (hn : (name != ("get_source" : Str)) = true) (F : Fr h₀ L s.heap m) (X₀ : K.In h₀) (I : InstAt s.heap x ox C (some (dictOf es n))) (hg : plainGet K C name = true) (hh : hasDictIn K C = true)
    (hm : mroIn K C (.type "module") = some false) (ha : findIn K (.ref C) name = some none) (hl : getL name es = some (some v)) (hv : handedIn v = true) (h : Q v s) :
    wpAny (model theProg w) A (call (.builtin "getattr") [.ref x, .str name t, d]) Q E s := by
  have X := X₀.keeps F.keep
  refine gattr3 name hn (notMod X I hm) (gaby_open X I (plainGet_of hg).1 ?_)
  have hf : findObj K C (some (dictOf es n)) name = some (.value v) := findObj_own hh ha rfl (by show lookIn name (dictOf es n) = _; rw [lookIn_dict, hl])
  obtain ⟨hh', g, dr, tk, os⟩ := s
  have L0 := I.type (M := model theProg w)
  have L1 := looks_find (M := model theProg w) X I hf
  refine wpAny_bind (wpAny_pure (wpAny_bind (L0.at (wpAny_bind (L1.at ?_)))))
  refine wpAny_pure ?_
  show wpAny _ _ (handedOut v) _ _ _
  rw [handedOut_of hv]; exact wpAny_pure h
/-- the attribute is missing -/
theorem ga_miss {d : Value} {es : List DictEntry} {n : Nat} {cd : ClassData} (hn : (name != ("get_source" : Str)) = true) (hA : A.handled = none) (F : Fr h₀ L s.heap m) (N : News h₀ L s.heap news) (X₀ : K.In h₀) (I : InstAt s.heap x ox C (some (dictOf es n))) (hg : plainGet K C name = true) (hh : hasDictIn K C = true)
    (hm : mroIn K C (.type "module") = some false) (ha : findIn K (.ref C) name = some none) (hcp : copiedNames.contains name = false) (hl : getL name es = some none) (hc : clsIn K C = some cd)
    (hnm : cd.name.cps.foldl (fun k c => k + (Str.utf8Of c).length) 0 ≤ 100) (hfit : ((s!"'{cd.name.toString}' object has no attribute '" : Str) ++ name ++ "'").length ≤ sizeLine)
    (h : ∀ h' tk, Fr h₀ L h' m → News h₀ L h' news → Q d { s with heap := h', toks := tk }) :
    wpAny (model theProg w) A (call (.builtin "getattr") [.ref x, .str name t, d]) Q E s := by
  have X := X₀.keeps F.keep
  refine gattr3 name hn (notMod X I hm) (gaby_open X I (plainGet_of hg).1 ?_)
  have hf : findObj K C (some (dictOf es n)) name = some .missing := by
    obtain ⟨cd, hc, hd⟩ := any_some hh
    unfold findObj
    rw [hc, Option.bind_some, ha, Option.bind_some]
    have ho : ownOf cd (some (dictOf es n)) name = some none := by unfold W.ownOf; rw [if_pos hd]; show lookIn name (dictOf es n) = _; rw [lookIn_dict, hl]
    have hcp' : name ∉ copiedNames := by simpa using hcp
    simp [ho, hcp']
  obtain ⟨hh', g, dr, tk, os⟩ := s
  have L0 := I.type (M := model theProg w)
  have L1 := looks_find (M := model theProg w) X I hf
  have L2 := looks_findIn (M := model theProg w) X (plainGet_of hg).2
  have L3 := looks_clsIn (M := model theProg w) X hc
  refine wpAny_bind (wpAny_pure (wpAny_bind (L0.at (wpAny_bind (L1.at (wpAny_bind (L2.at ?_)))))))
  show wpAny _ _ (noSuchAttribute _ _) _ _ _
  unfold noSuchAttribute
  refine wpAny_bind ?_
  unfold typeNameOfCut
  refine wpAny_bind ?_
  lk
  lk
  lk
  lk
  lk
  refine wpAny_pure ?_
  unfold typeNameCut
  dsimp only
  refine wpAny_bind (L3.at ?_)
  dsimp only
  rw [if_pos hnm]
  refine wpAny_pure ?_
  refine wpAny_raiseAttrError hA (fun h' tk' e hx => ?_) hfit
  dsimp only at hx
  obtain ⟨t', u', he⟩ := hx.there
  refine wpAny_isInstance (T := "AttributeError") (b := true) ⟨_, he, rfl⟩ sub_AttributeError ⟨rfl, ?_⟩
  exact h h' tk' (Fr.keeps F hx.keeps) fun p hp => ⟨hx.keeps _ _ (N p hp).1, (N p hp).2⟩
/-- the attribute is a slot -/
theorem ga_slot {v d : Value} {p : Addr} {i : Nat} (hn : (name != ("get_source" : Str)) = true) (F : Fr h₀ L s.heap m) (X₀ : K.In h₀) (I : InstAt s.heap x ox C (some od)) (hg : plainGet K C name = true) (hm : mroIn K C (.type "module") = some false) (hc : isClsIn K C = true)
    (ha : findIn K (.ref C) name = some (some (.ref p))) (hn' : specialIn K (.ref p) "__get__" = some (some (.builtin "member_descriptor.__get__"))) (ht : takesIn K (.ref p) = some true) (hp : slotIn K p C = some i)
    (hv : (ox.slots[i]?).join = some v) (hh : handedIn v = true) (h : Q v s) :
    wpAny (model theProg w) A (call (.builtin "getattr") [.ref x, .str name t, d]) Q E s := by
  have X := X₀.keeps F.keep
  refine gattr3 name hn (notMod X I hm) (gaby_open X I (plainGet_of hg).1 ?_)
  have hf := findObj_data (od := od) hc ha hn' ht
  obtain ⟨hh', g, dr, tk, os⟩ := s
  have L0 := I.type (M := model theProg w)
  have L1 := looks_find (M := model theProg w) X I hf
  have L2 := looks_findIn (M := model theProg w) X (plainGet_of hg).2
  refine wpAny_bind (wpAny_pure (wpAny_bind (L0.at (wpAny_bind (L1.at (wpAny_bind (L2.at ?_)))))))
  show wpAny _ _ (holding _ (call _ _) >>= ret) _ _ _
  refine wpAny_bind (wpAny_holding (wpAny_mono (Q := fun v' s' => wpAny (model theProg w) A.in1 (handedOut v') (fun v s' => Q ((some v).getD d) s') (fun _ _ => False) s') (E := fun _ _ => False) (wpAny_call (slot_get X I hp hv (handed_on hh h))) (fun v s' z => ?_) fun _ _ z => z.elim))
  exact wpAny_pure z
theorem ga_none {d : Value} (hA : A.handled = none) (F' : Fr h₀ L s.heap m) (N : News h₀ L s.heap news) (h : ∀ h' tk, Fr h₀ L h' m → News h₀ L h' news → Q d { s with heap := h', toks := tk }) :
    wpAny (model theProg w) A (call (.builtin "getattr") [.none, .str (Str.ofString "name") t, d]) Q E s := by
  obtain ⟨hp, g, dr, tk, os⟩ := s
  refine Calls.call_function_entry KB.kind_getattr KB.plain_getattr KB.entry_getattr (args_ga3 _ _ _) ?_
  unfold Builtin.«getattr»
  refine wpAny_bind (wpAny_of_eq (a := [.none, .str (Str.ofString "name") t, d]) (by first | rfl | kernel_rfl) ?_)
  dsimp only
  refine wpAny_bind (wpAny_of_eq (a := ()) (by first | rfl | kernel_rfl) ?_)
  refine wpAny_bind (wpAny_of_eq (a := none) (by first | rfl | kernel_rfl) ?_)
  dsimp only
  refine wpAny_bind (wpAny_of_eq (a := 0) (by first | rfl | kernel_rfl) ?_)
  rw [if_neg (by decide)]
  refine wpAny_bind ?_
  unfold getAttrBy?
  have hT : ∀ s' : Shared, s'.TypeIs (.none) "NoneType" := fun _ => rfl
  have f1 := sub_AttributeError
  have f3 := PySem.F.slot_NoneType_getattribute.lookup
  have f4 := PySem.F.slot_NoneType_getattribute.bind (.none)
  have f5 := am_none_getattr_none
  have hmiss : typeLookup (.type "NoneType") (Str.ofString "name") = pure none := am_miss_of_fast (by decide +kernel)
  have hA' : A.in1.handled = none := hA
  unfold getAttrBy
  repeat (any_goals (first | assumption | ((with_reducible show wpAny _ _ (call (Value.builtin "object.__getattribute__") _ _) _ _ _); refine call_meets PySem.F.slot_NoneType_getattribute (hT _) PySem.F.entry_object_getattribute (PySem.F.args_object_getattribute_2 _ _) (meets_getattribute_miss_none _ _ hmiss) ⟨hA', fun h' tk' e hx => ?_⟩) | wp_step))
  obtain ⟨t', u', he⟩ := hx.there
  show wpAny _ _ (getattributeRaised _ _ _ _ _ _ _) _ _ _
  unfold getattributeRaised
  repeat (any_goals (first | assumption | wp_step))
  exact ⟨_, rfl, h _ _ (Fr.keeps F' hx.keeps) fun p hp' => ⟨hx.keeps _ _ (N p hp').1, (N p hp').2⟩⟩
end
end
section
theorem off_Go : True := by
  w_top off
  exact True.intro
theorem unr_Go {a b : Nat} (h : a < b) : a < b := h
local macro_rules | `(tactic| k_room) => `(tactic| ((try simp only [depth_under_make, depth_under_kw, depth_in1, depth_deeper, depth_caller]); (try dsimp only [ktrTop]); (try simp only [recursionLimit]); omega))
local macro_rules | `(tactic| k_units) => `(tactic| ((try simp only [units_in1, units_deeper, Around.mark_units, units_caller]); (try dsimp only [ktrTop]); (try simp only [cLine]); omega))
local macro_rules | `(tactic| k_enter) => `(tactic| (refine' code_def ?k1 ?k2 ?k3 ?k4 ?k5 ?kA ?kF ?kK ?k6 ?k7 ?k8 ?k9 ?kB ?_ ?c2 ?c3 ?c4 ?c5; (case kA => exact rfl); (case kF => exact rfl); (case kK => first | assumption | exact rfl); (case k1 => k_asm); (case k2 => k_asm); (case k3 => k_asm); (case k4 => k_asm); (case k5 => k_asm); (case k6 => k_is); (case k7 => k_is); (case k8 => k_room); (case k9 => first | exact BindsTo.of_eq rfl | exact binds_K (by k_in) rfl (by k_is) rfl rfl rfl | fail "k_enter: no rule for these arguments"); (case c5 => decide); (case kB => exact locs rfl); (case c2 => exact rfl); (case c3 => exact rfl); (case c4 => exact rfl); k_whole; intro g' L' h' FG' F' N' B' X' T'; (try dsimp only); (try k_lift B'); (try k_fold)))
local macro_rules | `(tactic| k_all) => `(tactic| (refine ne_of_below (by assumption) ?_; first | exact Nat.le_refl _ | omega))
local macro_rules | `(tactic| k_mem) => `(tactic| first | exact List.Mem.head _ | (refine List.Mem.tail _ ?_; k_mem) | assumption)
section
variable {w : World} {A : Around} {E : Value → Shared → Prop} {s : Shared} {h₀ : Heap} {L : Addr} {m : Str → Option Value} {news : Led} {G : Gram} {x : Addr} {prs : Prs}
local macro_rules | `(tactic| walk_at "my own") => `(tactic| (k_dflt (refine' ga_own ?k0 ?k1 ?k2 ?k3 ?k4 ?k5 ?k6 ?k7 ?k8 ?k9 ?_; (case k0 => decide +kernel); (case k1 => assumption); (case k2 => assumption); (case k3 => k_inst); (case k4 => k_is); (case k5 => k_is); (case k6 => k_is); (case k7 => k_is); (case k8 => k_get); (case k9 => k_handed))))
local macro_rules | `(tactic| walk_at "my miss") => `(tactic| (k_dflt (refine' ga_miss ?k0 ?kA ?k1 ?kN ?k2 ?k3 ?k4 ?k5 ?k6 ?k7 ?kc ?k8 ?kd ?ke ?kf ?_; (case k0 => decide +kernel); (case kA => assumption); (case k1 => assumption); (case kN => assumption); (case k2 => assumption); (case k3 => k_inst); (case k4 => k_is); (case k5 => k_is); (case k6 => k_is); (case k7 => k_is); (case kc => decide +kernel); (case k8 => k_get); (case kd => k_is); (case ke => decide +kernel); (case kf => decide +kernel))))
local macro_rules | `(tactic| walk_at "my slot") => `(tactic| (k_dflt (refine' ga_slot ?k0 ?k1 ?k2 ?k3 ?k4 ?km ?k5 ?k6 ?k7 ?k8 ?k9 ?k10 ?k11 ?_; (case k0 => decide +kernel); (case k1 => assumption); (case k2 => assumption); (case k3 => k_inst); (case k4 => k_is); (case km => k_is); (case k5 => k_is); (case k6 => k_is); (case k7 => k_is); (case k8 => k_is); (case k9 => k_is); (case k10 => k_slotget); (case k11 => k_handed))))
theorem oids_get {te : Addr} {k : Nat} {t0 : Tok} {Q : Value → Shared → Prop} (X : (hd.heap_39 w.params).In h₀) (hA : A.handled = none) (F : Fr h₀ L s.heap m) (N : News h₀ L s.heap news) (hE : ExprAt G news x) (hO : OidsAt news (G.dx x) prs) (hte : (te, tupO [] k) ∈ news)
    (h : ∀ t' k' h' tk, (t', tupO (prs.map fun p => .ref p.1) k') ∈ news → Fr h₀ L h' m → News h₀ L h' news → Q (.ref t') { s with heap := h', toks := tk }) :
    wpAny (model PySem.Challenge.rw_vj0022_01.row.prog w) A (call (.builtin "getattr") [.ref x, .str (Str.ofString "oids") t0, .ref te]) Q E s := by
  revert X; k_fill; intro X
  unfold ExprAt at hE
  split at hE
  · obtain ⟨tw, nm, nt, idt, hE⟩ := hE
    rcases hO with ⟨rfl, n, hO⟩ | ⟨hs, tk, t, k, n, hO, hO2, _⟩
    · walk_at "my miss"
      exact fun h' tk F' N' => h _ _ _ _ hte F' N'
    · walk_at "my own"
      exact h _ _ s.heap s.toks hO2 F N
  · obtain ⟨t, k, nm, nt, idt, hE, _⟩ := hE
    rcases hO with ⟨rfl, n, hO⟩ | ⟨hs, tk, t, k, n, hO, hO2, _⟩
    · walk_at "my miss"
      exact fun h' tk F' N' => h _ _ _ _ hte F' N'
    · walk_at "my own"
      exact h _ _ s.heap s.toks hO2 F N
  · obtain ⟨t, k, nm, nt, idt, hE, _⟩ := hE
    rcases hO with ⟨rfl, n, hO⟩ | ⟨hs, tk, t, k, n, hO, hO2, _⟩
    · walk_at "my miss"
      exact fun h' tk F' N' => h _ _ _ _ hte F' N'
    · walk_at "my own"
      exact h _ _ s.heap s.toks hO2 F N
  · obtain ⟨t, k, nm, nt, idt, hE, _⟩ := hE
    rcases hO with ⟨rfl, n, hO⟩ | ⟨hs, tk, t, k, n, hO, hO2, _⟩
    · walk_at "my miss"
      exact fun h' tk F' N' => h _ _ _ _ hte F' N'
    · walk_at "my own"
      exact h _ _ s.heap s.toks hO2 F N
theorem name_ga {t0 : Tok} {Q : Value → Shared → Prop} (X : (hd.heap_39 w.params).In h₀) (F : Fr h₀ L s.heap m) (N : News h₀ L s.heap news) (hE : ExprAt G news x) (hO : OidsAt news (G.dx x) prs)
    (h : ∀ (nm : Short) nt, Q (.str nm.1 nt) s) : wpAny (model PySem.Challenge.rw_vj0022_01.row.prog w) A (call (.builtin "getattr") [.ref x, .str (Str.ofString "name") t0, .none]) Q E s := by
  revert X; k_fill; intro X
  unfold ExprAt at hE
  split at hE
  · obtain ⟨tw, nm, nt, idt, hE⟩ := hE
    rcases hO with ⟨_, n, hO⟩ | ⟨hs, tk, t, k, n, hO, _, _⟩ <;> (walk_at "my slot"; exact h _ _)
  · obtain ⟨t, k, nm, nt, idt, hE, _⟩ := hE
    rcases hO with ⟨_, n, hO⟩ | ⟨hs, tk, t, k, n, hO, _, _⟩ <;> (walk_at "my slot"; exact h _ _)
  · obtain ⟨t, k, nm, nt, idt, hE, _⟩ := hE
    rcases hO with ⟨_, n, hO⟩ | ⟨hs, tk, t, k, n, hO, _, _⟩ <;> (walk_at "my slot"; exact h _ _)
  · obtain ⟨t, k, nm, nt, idt, hE, _⟩ := hE
    rcases hO with ⟨_, n, hO⟩ | ⟨hs, tk, t, k, n, hO, _, _⟩ <;> (walk_at "my slot"; exact h _ _)
end
end
section
theorem off_Ex : True := by
  w_top off
  exact True.intro
local macro_rules | `(tactic| walk_at "off 0") => `(tactic| fail)
local macro_rules | `(tactic| walk_at "off 1") => `(tactic| fail)
local macro_rules | `(tactic| walk_at "off 2") => `(tactic| fail)
local macro_rules | `(tactic| walk_at "off 3") => `(tactic| fail)
theorem unr_Ex {a b : Nat} (h : a < b) : a < b := h
local macro_rules | `(tactic| k_room) => `(tactic| ((try simp only [depth_under_make, depth_under_kw, depth_in1, depth_deeper, depth_caller]); (try dsimp only [ktrTop]); (try simp only [recursionLimit]); omega))
local macro_rules | `(tactic| k_units) => `(tactic| ((try simp only [units_in1, units_deeper, Around.mark_units, units_caller]); (try dsimp only [ktrTop]); (try simp only [cLine]); omega))
local macro_rules | `(tactic| k_enter) => `(tactic| (refine' code_def ?k1 ?k2 ?k3 ?k4 ?k5 ?kA ?kF ?kK ?k6 ?k7 ?k8 ?k9 ?kB ?_ ?c2 ?c3 ?c4 ?c5; (case kA => exact rfl); (case kF => exact rfl); (case kK => first | assumption | exact rfl); (case k1 => k_asm); (case k2 => k_asm); (case k3 => k_asm); (case k4 => k_asm); (case k5 => k_asm); (case k6 => k_is); (case k7 => k_is); (case k8 => k_room); (case k9 => first | exact BindsTo.of_eq rfl | exact binds_K (by k_in) rfl (by k_is) rfl rfl rfl | fail "k_enter: no rule for these arguments"); (case c5 => decide); (case kB => exact locs rfl); (case c2 => exact rfl); (case c3 => exact rfl); (case c4 => exact rfl); k_whole; intro g' L' h' FG' F' N' B' X' T'; (try dsimp only); (try k_lift B'); (try k_fold)))
local macro_rules | `(tactic| k_all) => `(tactic| (refine ne_of_below (by assumption) ?_; first | exact Nat.le_refl _ | omega))
local macro_rules | `(tactic| k_mem) => `(tactic| first | exact List.Mem.head _ | (refine List.Mem.tail _ ?_; k_mem) | assumption)
namespace EX
open Builtin Builtin.ObjectAttr
theorem slot_bga : Slot "BaseException" "__getattribute__" "BaseException.__getattribute__" :=
  .of (owner := "BaseException") (n := "__getattribute__") (by rw [typeLookup_type, builtinLookup_eq_fast]; kernel_rfl) (by decide +kernel) (by decide +kernel) (by decide +kernel)
    (by first | exact .inl (by decide +kernel) | exact .inr (by decide +kernel)) (by rw [isSubtype_type]; kernel_rfl)
theorem entry_bga : entryFor table "BaseException.__getattribute__" = some Builtin.«object.__getattribute__» :=
  entryFor_alias (id' := "object.__getattribute__") (by kernel_rfl) (by decide +kernel) (by decide +kernel) (by kernel_rfl)
theorem args_bga (a b : Value) : argsOk "BaseException.__getattribute__" ⟨[a, b], []⟩ := by unfold argsOk; kernel_rfl
section
variable {w : World} {A : Around} {E : Value → Shared → Prop} {s : Shared} {h₀ : Heap} {L : Addr} {m : Str → Option Value} {news : Led} {Q : Value → Shared → Prop} {K : Frag} {x C : Addr} {ox od : Obj} {name : Str} {t : Tok}
theorem exc_get {v : Value} {expr : Bool} (F : Fr h₀ L s.heap m) (X₀ : K.In h₀) (I : InstAt s.heap x ox C (some od)) (hga : findIn K (.ref C) "__getattribute__" = some (some (.builtin "BaseException.__getattribute__"))) (hgt : findIn K (.ref C) "__getattr__" = some none)
    (hb : mroIn K C (.type "BaseException") = some true) (hf : findObj K C (some od) name = some (.value v)) (hh : handedIn v = true) (h : Q v { s with toks := s.toks + 1 }) :
    wpAny (model theProg w) A (getAttr (.ref x) name expr) Q E s := by
  have X := X₀.keeps F.keep
  obtain ⟨hp, g, d, tk, os⟩ := s
  have L0 := I.type (M := model theProg w)
  have L1 := looks_findIn (M := model theProg w) X hga
  have LH : Looks (model theProg w) hp (hookBefore (.ref C)) none := looks_hook X hgt
  have LB : Looks (model theProg w) hp (isInstance (.ref x) (.type "BaseException")) true := L0.andThen (looks_mroIn X hb)
  have LF := looks_find (M := model theProg w) X I hf
  unfold getAttr getAttrBy
  refine wpAny_bind (wpAny_mkText (wpAny_holding (wpAny_bind (L0.at (wpAny_bind (L1.at ?_))))))
  dsimp only
  rw [show (onTheHeap (.ref C) && Value.builtin "BaseException.__getattribute__" == Value.builtin "object.__getattribute__") = false from by rw [show (Value.builtin "BaseException.__getattribute__" == Value.builtin "object.__getattribute__") = false from by decide +kernel, Bool.and_false], if_neg (by decide)]
  refine wpAny_bind (LH.at (wpAny_bind (wpAny_attempt (wpAny_holding ?_))))
  unfold callGetattribute
  rw [show (expr && onTheHeap (Value.builtin "BaseException.__getattribute__")) = false from Bool.and_false _, if_neg (by decide)]
  unfold boundAndCalled
  rw [slot_bga.bind]
  refine wpAny_bind (wpAny_pure ?_)
  show wpAny _ _ (call (.builtin "BaseException.__getattribute__") [.ref x, .str name tk]) _ _ _
  refine wpAny_call ?_
  refine codeAny_call_builtin slot_bga.plain entry_bga ?_
  refine @check_slot (model theProg w) _ _ ⟨hp, g, d, tk + 1, os⟩ "BaseException.__getattribute__" "BaseException" "__getattribute__" (.ref x) [.str name tk] [] _ (by decide +kernel) (by decide +kernel) LB (args_bga (.ref x) (.str name tk)) ?_
  unfold Builtin.«object.__getattribute__»
  refine wpAny_bind (wpAny_of_eq (a := (.ref x, [.str name tk])) (by first | rfl | kernel_rfl) ?_)
  dsimp only
  refine wpAny_bind (wpAny_of_eq (a := name) (by first | rfl | kernel_rfl) ?_)
  refine wpAny_bind (L0.at (wpAny_bind (LF.at ?_)))
  refine wpAny_pure ?_
  show wpAny _ _ (handedOut v) _ _ _
  rw [handedOut_of hh]; exact wpAny_pure h

/-- a store in a dict of the ledger's -/
theorem store_led {d : Addr} {tk : Tok} {v : Value} {es es' : List DictEntry} {n n' : Nat} {pre post : Led} {Q : Fin → Shared → Prop} (F : Fr h₀ L s.heap m) (N : News h₀ L s.heap (pre ++ (d, dictOf es n) :: post)) (h1 : ∀ p ∈ pre, p.1 ≠ d) (h2 : ∀ p ∈ post, p.1 ≠ d)
    (hl : (getL name es).isSome = true) (e : (putL name (PyData.keyHash w.params name) (.str name s.toks) v es, putN name es n) = (es', n')) (hz : es'.length ≤ 1000)
    (h : ∀ h', Fr h₀ L h' m → News h₀ L h' (pre ++ (d, dictOf es' n') :: post) → Q (.done (.ret .none)) { s with heap := h', toks := s.toks + 1 }) :
    wpAny (model theProg w) A (storeInDict d (.str name tk) name v) Q E s := by
  obtain ⟨e1, e2⟩ := Prod.mk.inj e
  have e3 : Obj.putName name (PyData.keyHash w.params name) (.str name s.toks) v (dictOf es n) = dictOf es' n' := by rw [putName_dict, e1, e2]
  obtain ⟨U1, U2⟩ := news_upd (f := Obj.putName name (PyData.keyHash w.params name) (.str name s.toks) v) F N h1 h2 e3 rfl
  have D := (N (d, dictOf es n) (by simp)).1
  have D' := (U2 (d, dictOf es' n') (by simp)).1
  unfold storeInDict newKeyGuard
  refine wpAny_bind (wpAny_pure (wpAny_bind ?_))
  unfold nsSet
  refine wpAny_bind (wpAny_bind (wpAny_askSetting (wpAny_pure (wpAny_bind (wpAny_mkText (wpAny_bind (wpAny_loadPart D ?_)))))))
  have hl' : (lookIn name (dictOf es n)).isSome = true := hl
  unfold lookIn at hl'
  dsimp only at hl' ⊢
  have c : (!es.toArray.any (·.key.isStr name) && es.toArray.any (·.refKey)) = false := by
    rw [← Array.any_toList, ← Array.any_toList]
    split at hl'
    · rename_i en he
      rw [List.any_eq_true.mpr ⟨en, List.mem_of_find?_eq_some he, List.find?_some he⟩]; rfl
    · split at hl'
      · cases hl'
      · rename_i z; rw [Bool.not_eq_true] at z; rw [z, Bool.and_false]
  rw [aRefKeyMayBeTheName_at, c]
  refine wpAny_updatePart D ?_
  refine wpAny_bind (wpAny_lookBehind D' (pastItsLine_dict (by rw [List.size_toArray, sizeLine_eq]; omega)) ?_)
  exact wpAny_pure (h _ U1 U2)

theorem osaE_open {o1 : Option Obj} {tk : Tok} {v : Value} {a2 a3 : Addr} {cd : ClassData} {R : Result → Shared → Prop} (X : K.In s.heap) (I : InstAt s.heap x ox C o1) (hc : clsIn K C = some cd) (hm : cd.mro = [.ref C, .ref a2, .ref a3, .type "Exception", .type "BaseException", .type "object"]) (ha : findIn K (.ref C) name = some none)
    (h : wpAny (model theProg w) A.in1 (storeInOwnDict (.ref x) (.ref C) (.str name tk) name v false)
      (fun fin s' => match fin with | .done f => R (.ok f) s' | .again c' => c'.quiet = true ∧ codeAny (model theProg w) A c' R s') (fun e s' => R (.error e) s') s) :
    codeAny (model theProg w) A (.call (.builtin "object.__setattr__") ⟨[.ref x, .str name tk, v], []⟩) R s := by
  have SF := PySem.F.store_object
  have sub : Looks (model theProg w) s.heap (isInstance (.ref x) (.type "object")) true := I.type.andThen (looks_mroIn X (by unfold mroIn; rw [hc, Option.bind_some, hm]; rfl))
  refine codeAny_call_builtin SF.slot.plain SF.entry (@check_slot (model theProg w) _ _ s "object.__setattr__" "object" "__setattr__" (.ref x) [.str name tk, v] [] _ SF.kind SF.split sub (SF.args (.ref x) (.str name tk) v) ?_)
  have hmr : Looks (model theProg w) s.heap (mroOf (.ref C)) cd.mro := (looks_clsIn X hc).andThen .now
  rw [osa_eq, refuse_eq]
  refine wpAny_bind (wpAny_bind (I.type.here (wpAny_bind (hmr.here ?_))))
  rw [hm, refuseLoop_ref, refuseLoop_ref, refuseLoop_ref, PySem.F.store_Exception.passes]
  refine wpAny_pure (wpAny_bind (I.type.here (wpAny_bind ((looks_findIn X ha).here (wpAny_bind (wpAny_pure ?_))))))
  exact h
/-- a store in an exception that has its dict -/
theorem exc_set {dx a2 a3 : Addr} {v : Value} {cd : ClassData} {es es' : List DictEntry} {n n' : Nat} {pre post : Led} {Q : Unit → Shared → Prop} (F : Fr h₀ L s.heap m) (X₀ : K.In h₀) (N : News h₀ L s.heap (pre ++ (dx, dictOf es n) :: post)) (I : InstAt s.heap x ox C (some (dictOf es n))) (hd : ox.dict = some dx)
    (hs : findIn K (.ref C) "__setattr__" = some (some (.builtin "object.__setattr__"))) (hc : clsIn K C = some cd) (hm : cd.mro = [.ref C, .ref a2, .ref a3, .type "Exception", .type "BaseException", .type "object"]) (hh : cd.hasDict = true) (ha : findIn K (.ref C) name = some none)
    (hl : (getL name es).isSome = true) (e : (putL name (PyData.keyHash w.params name) (.str name (s.toks + 1)) v es, putN name es n) = (es', n')) (h1 : ∀ p ∈ pre, p.1 ≠ dx) (h2 : ∀ p ∈ post, p.1 ≠ dx) (hz : es'.length ≤ 1000)
    (h : ∀ h', Fr h₀ L h' m → News h₀ L h' (pre ++ (dx, dictOf es' n') :: post) → Q () { s with heap := h', toks := s.toks + 2 }) :
    wpAny (model theProg w) A (setAttr (.ref x) name v) Q E s := by
  have X := X₀.keeps F.keep
  refine set_plain X I hs (osaE_open (s := { s with toks := s.toks + 1 }) X I hc hm ha ?_)
  obtain ⟨hx, hcl, hn, -⟩ := I
  obtain ⟨oc, odi, oda, osl⟩ := ox
  dsimp only at hcl hd
  subst hcl hd
  refine wpAny_bind (wpAny_pure (wpAny_bind (wpAny_bind (wpAny_loadPart hx (wpAny_bind ((looks_clsIn X hc).at ?_))))))
  rw [hh]
  refine wpAny_pure (a := some dx) ?_
  exact store_led (s := { s with toks := s.toks + 1 }) F N h1 h2 hl e hz fun h' F' N' => h h' F' N'
/-- the first store in an exception: its dict is made -/
theorem exc_set1 {a2 a3 : Addr} {v : Value} {cd : ClassData} {fs : Array Value} {post : Led} {Q : Unit → Shared → Prop} (F : Fr h₀ L s.heap m) (X₀ : K.In h₀) (N : News h₀ L s.heap ((x, (⟨.ref C, none, .fields fs, #[]⟩ : Obj)) :: post)) (hp : ∀ p ∈ post, p.1 ≠ x)
    (hs : findIn K (.ref C) "__setattr__" = some (some (.builtin "object.__setattr__"))) (hc : clsIn K C = some cd) (hm : cd.mro = [.ref C, .ref a2, .ref a3, .type "Exception", .type "BaseException", .type "object"]) (hh : cd.hasDict = true) (ha : findIn K (.ref C) name = some none)
    (h : ∀ d h', Fr h₀ L h' m → News h₀ L h' ((d, dictOf [⟨PyData.keyHash w.params name, .str name (s.toks + 1), v⟩] 1) :: (x, (⟨.ref C, some d, .fields fs, #[]⟩ : Obj)) :: post) → (∀ p ∈ post, p.1 < d) → x < d → Q () { s with heap := h', toks := s.toks + 2 }) :
    wpAny (model theProg w) A (setAttr (.ref x) name v) Q E s := by
  have X := X₀.keeps F.keep
  have hx := (N _ (.head _)).1
  have I : InstAt s.heap x ⟨.ref C, none, .fields fs, #[]⟩ C none := ⟨hx, rfl, rfl, trivial⟩
  refine set_plain X I hs (osaE_open (s := { s with toks := s.toks + 1 }) X I hc hm ha ?_)
  refine wpAny_bind (wpAny_pure (wpAny_bind (wpAny_bind (wpAny_loadPart hx (wpAny_bind ((looks_clsIn X hc).at ?_))))))
  rw [hh]
  have lt : ∀ p ∈ post, p.1 < s.heap.objs.size := fun p hq => Heap.lt_size (N p (.tail _ hq)).1
  have ltx : x < s.heap.objs.size := Heap.lt_size hx
  have F1 := F.push emptyDict
  have N1 := N.push F emptyDict
  obtain ⟨F2, N2⟩ := news_upd (pre := [(s.heap.objs.size, emptyDict)]) (f := fun o => { o with dict := some s.heap.objs.size }) (o' := ⟨.ref C, some s.heap.objs.size, .fields fs, #[]⟩) F1 N1 (fun p hq => by rw [List.mem_singleton.mp hq]; exact Nat.ne_of_gt ltx) hp rfl rfl
  show wpAny _ _ ((alloc emptyDict >>= _) >>= _) _ _ _
  refine wpAny_bind (wpAny_bind (wpAny_alloc (wpAny_pure (wpAny_bind (wpAny_update (Heap.get?_push_of_some _ hx) (wpAny_pure (a := some s.heap.objs.size) ?_))))))
  refine store_led (s := { s with heap := (s.heap.push emptyDict).update x fun o => { o with dict := some s.heap.objs.size }, toks := s.toks + 1 }) (pre := []) (es := []) (n := 0) F2 N2 (fun _ h => nomatch h) (fun p hq => ?_) rfl rfl (Nat.le_of_ble_eq_true rfl) fun h' F' N' => h _ h' F' N' lt ltx
  rcases List.mem_cons.mp hq with rfl | hq
  · exact Nat.ne_of_lt ltx
  · exact Nat.ne_of_lt (lt p hq)
end
end EX
end
section
theorem off_Pe : True := by
  w_top off
  exact True.intro
theorem unr_Pe {a b : Nat} (h : a < b) : a < b := h
local macro_rules | `(tactic| k_room) => `(tactic| ((try simp only [depth_under_make, depth_under_kw, depth_in1, depth_deeper, depth_caller]); (try dsimp only [ktrTop]); (try simp only [recursionLimit]); omega))
local macro_rules | `(tactic| k_units) => `(tactic| ((try simp only [units_in1, units_deeper, Around.mark_units, units_caller]); (try dsimp only [ktrTop]); (try simp only [cLine]); omega))
local macro_rules | `(tactic| k_enter) => `(tactic| (refine' code_def ?k1 ?k2 ?k3 ?k4 ?k5 ?kA ?kF ?kK ?k6 ?k7 ?k8 ?k9 ?kB ?_ ?c2 ?c3 ?c4 ?c5; (case kA => exact rfl); (case kF => exact rfl); (case kK => first | assumption | exact rfl); (case k1 => k_asm); (case k2 => k_asm); (case k3 => k_asm); (case k4 => k_asm); (case k5 => k_asm); (case k6 => k_is); (case k7 => k_is); (case k8 => k_room); (case k9 => first | exact BindsTo.of_eq rfl | exact binds_K (by k_in) rfl (by k_is) rfl rfl rfl | fail "k_enter: no rule for these arguments"); (case c5 => decide); (case kB => exact locs rfl); (case c2 => exact rfl); (case c3 => exact rfl); (case c4 => exact rfl); k_whole; intro g' L' h' FG' F' N' B' X' T'; (try dsimp only); (try k_lift B'); (try k_fold)))
local macro_rules | `(tactic| k_all) => `(tactic| (refine ne_of_below (by assumption) ?_; first | exact Nat.le_refl _ | omega))
local macro_rules | `(tactic| k_mem) => `(tactic| first | exact List.Mem.head _ | (refine List.Mem.tail _ ?_; k_mem) | assumption)
theorem strKeys_of {es : List DictEntry} (h : es.all (fun e => match e.key with | .str _ _ => true | _ => false) = true) : StrKeys es.toArray := fun e he => by
  have := List.all_eq_true.mp h e (by simpa using he)
  cases hk : e.key <;> rw [hk] at this <;> first | exact ⟨_, _, rfl⟩ | cases this
section
variable {w : World} {A : Around} {E : Value → Shared → Prop} {s : Shared} {h₀ : Heap} {L : Addr} {m : Str → Option Value} {news : Led} {Q : Value → Shared → Prop}
theorem ns_of_K {K : Frag} {h : Heap} (X : K.In h) {a : Addr} {oc : Value} {dd : Option Addr} {es : List DictEntry} {ep : Nat} {sl : Array (Option Value)} (hl : K.lookup a = some ⟨oc, dd, .dict es.toArray ep, sl⟩)
    (hk : es.all (fun e => match e.key with | .str _ _ => true | _ => false) = true) : h.Ns a (nsFind es.toArray) := ⟨_, _, _, X _ _ hl, rfl, strKeys_of hk, fun _ => rfl⟩
theorem kf {P : Prop} (h : PySem.Challenge.rw_vj0022_01.row.prog = PySem.Challenge.rw_vj0022_01.row.prog → P) : P := h rfl
theorem own31 {h : Heap} {bmB tl : List Value} (X : (hd.heap_39 w.params).In h) (T : OwnTail h bmB tl) : OwnTail h bmB (.ref 31 :: tl) := by
  revert X; refine kf ?_; k_fill; intro _ X
  k_dflt (refine' OwnTail.own (X 31 _ ?a) (ns_of_K X ?b ?c) ?d T)
  case a => k_dflt k_is
  case b => k_dflt k_is
  case c => rfl
  case d => rfl
theorem own45 {h : Heap} {bmB tl : List Value} (X : (hd.heap_39 w.params).In h) (T : OwnTail h bmB tl) : OwnTail h bmB (.ref 45 :: tl) := by
  revert X; refine kf ?_; k_fill; intro _ X
  k_dflt (refine' OwnTail.own (X 45 _ ?a) (ns_of_K X ?b ?c) ?d T)
  case a => k_dflt k_is
  case b => k_dflt k_is
  case c => rfl
  case d => rfl
abbrev pe87 : Obj := excClassObj (Str.ofString "ParseError") (Str.ofString "ParseError") 87 86 [.ref 31, .ref 45] [.ref 31, .ref 45, .type "Exception", .type "BaseException", .type "object"] true [] [.ref 106, .ref 125] false none none (some (.ref 49)) none (some (.str (Str.ofString "ParseError") 238)) (some (.str (Str.ofString "ParseError") 246)) (some (.bool true)) "Exception.__new__"
theorem pe_lookup {h : Heap} (X : (hd.heap_39 w.params).In h) : h.get? 87 = some pe87 := by
  revert X; refine kf ?_; k_fill; intro _ X
  refine X _ _ ?_
  k_is
abbrev excObj (a : Addr) : Obj := { cls := .ref 87, data := .fields #[.ref a, .none, .none, .none, .bool false, .none] }
theorem pe_call {rest : List Value} {hp : Heap} {g : Array GenState} {d : Drawn} {t : Nat} {os : OsState} {Q : Fin → Shared → Prop} (X : (hd.heap_39 w.params).In hp) (hi : findIn (hd.heap_39 w.params) (.ref 87) "__init__" = some (some (.ref 63))) (hf : typeIn (hd.heap_39 w.params) (.ref 63) = some (.type "function")) (hrest : rest.length ≤ sizeLine)
    (h : wpAny (model theProg w) A (call (.ref 63) (.ref (hp.objs.size + 1) :: rest)) (fun r s' => r = .none ∧ Q (.done (.ret (.ref (hp.objs.size + 1)))) s') E ⟨(hp.push (tupO rest 0)).push (excObj hp.objs.size), g, d, t, os⟩) :
    wpAny (model theProg w) A (Builtin.«type.__call__» ⟨.ref 87 :: rest, []⟩) Q E ⟨hp, g, d, t, os⟩ := by
  have hC := pe_lookup X
  have T : OwnTail hp [.type "Exception", .type "BaseException", .type "object"] [.ref 31, .ref 45, .type "Exception", .type "BaseException", .type "object"] := own31 X (own45 X .base)
  have FB := PySem.F.excBase_Exception
  repeat (first | with_reducible refine wpAny_loadPart_at hC ?_ | with_reducible refine wpAny_madeBy_exc hC ?_ | wp_step)
  refine codeAny_call_builtin_code (Code.quiet_builtin _ FB.quiet) (wpAny_check_new_subT FB T hC ?_)
  refine codeAny_exc_new_subT FB T hC ?_ hrest
  show wpAny _ _ _ _ _ _
  have k : ∀ b o, hp.get? b = some o → ((hp.push (tupO rest 0)).push (excObj hp.objs.size)).get? b = some o := fun b o e => Heap.get?_push_of_some _ (Heap.get?_push_of_some _ e)
  have X₁ := X.keeps k
  have hC₁ := pe_lookup X₁
  have hget : ((hp.push (tupO rest 0)).push (excObj hp.objs.size)).get? (hp.objs.size + 1) = some (excObj hp.objs.size) := by heap_get
  have hcC : (Value.ref 87 :: [Value.ref 31, .ref 45, .type "Exception", .type "BaseException", .type "object"]).contains (.ref 87) = true := by decide
  unfold isInstance
  repeat (first | with_reducible refine wpAny_loadPart_at hget ?_ | (with_reducible refine wpAny_isSubtype_exc hC₁ ?_; rw [hcC]) | wp_step)
  show wpAny _ _ (typeLookup (.ref 87) _) _ _ _
  refine (looks_findIn X₁ hi).at ?_
  dsimp only
  refine wpAny_holding (wpAny_bind ((bind_fn X₁ _ hf).at ?_))
  refine wpAny_bind (wpAny_mono h (fun r s' hr => ?_) fun _ _ x => x)
  obtain ⟨rfl, hQ⟩ := hr
  wp_walk
  exact hQ
theorem pe_make {rest : List Value} (F : Fr h₀ L s.heap m) (N : News h₀ L s.heap news) (X₀ : (hd.heap_39 w.params).In h₀) (hrest : rest.length ≤ sizeLine)
    (h : ∀ a e h', Fr h₀ L h' m → News h₀ L h' ((e, excObj a) :: (a, tupO rest 0) :: news) → (∀ p ∈ news, p.1 < a) → a < e →
      wpAny (model theProg w) (A.under (.builtin "type.__call__" ⟨.ref 87 :: rest, []⟩)) (call (.ref 63) (.ref e :: rest)) (fun r s' => r = .none ∧ Q (.ref e) s') E { s with heap := h' }) :
    wpAny (model theProg w) A (call (.ref 87) rest) Q E s := by
  have hi : findIn (hd.heap_39 w.params) (.ref 87) "__init__" = some (some (.ref 63)) := by
    refine kf ?_; k_fill; intro _; k_is
  have hf : typeIn (hd.heap_39 w.params) (.ref 63) = some (.type "function") := by
    refine kf ?_; k_fill; intro _; k_is
  have X := X₀.keeps F.keep
  obtain ⟨hp, g, d, t, os⟩ := s
  have f1 := tc_lookup
  have f2 := tc_bind (.ref 87)
  have hC := pe_lookup X
  have hT : (⟨hp, g, d, t, os⟩ : Shared).TypeIs (.ref 87) "type" := ⟨_, hC, rfl⟩
  refine wpAny_call (codeAny_of_tree ?_)
  show wpAny _ _ (callAny (.ref 87) _) _ _ _
  repeat (any_goals (first | assumption | with_reducible refine wpAny_loadPart_at hC ?_ | wp_step))
  refine ⟨rfl, ?_⟩
  refine codeAny_call_builtin_at (Code.quiet_builtin _ (by decide +kernel)) entry_typeCall (wpAny_check_type_call_sub hC (pe_call X hi hf hrest ?_))
  have N1 := N.push F (tupO rest 0)
  have N2 := N1.push (F.push _) (excObj hp.objs.size)
  rw [Heap.size_push] at N2
  exact h hp.objs.size (hp.objs.size + 1) _ ((F.push _).push _) N2 (fun p hq => Heap.lt_size (N p hq).1) (Nat.lt_succ_self _)
end
end
section
theorem off_Pn : True := by
  w_top off
  exact True.intro
local macro_rules | `(tactic| walk_at "off 0") => `(tactic| fail)
theorem unr_Pn {a b : Nat} (h : a < b) : a < b := h
local macro_rules | `(tactic| k_room) => `(tactic| ((try simp only [depth_under_make, depth_under_kw, depth_in1, depth_deeper, depth_caller]); (try dsimp only [ktrTop]); (try simp only [recursionLimit]); omega))
local macro_rules | `(tactic| k_units) => `(tactic| ((try simp only [units_in1, units_deeper, Around.mark_units, units_caller]); (try dsimp only [ktrTop]); (try simp only [cLine]); omega))
local macro_rules | `(tactic| k_enter) => `(tactic| (refine' code_def ?k1 ?k2 ?k3 ?k4 ?k5 ?kA ?kF ?kK ?k6 ?k7 ?k8 ?k9 ?kB ?_ ?c2 ?c3 ?c4 ?c5; (case kA => exact rfl); (case kF => exact rfl); (case kK => first | assumption | exact rfl); (case k1 => k_asm); (case k2 => k_asm); (case k3 => k_asm); (case k4 => k_asm); (case k5 => k_asm); (case k6 => k_is); (case k7 => k_is); (case k8 => k_room); (case k9 => first | exact BindsTo.of_eq rfl | exact binds_K (by k_in) rfl (by k_is) rfl rfl rfl | fail "k_enter: no rule for these arguments"); (case c5 => decide); (case kB => exact locs rfl); (case c2 => exact rfl); (case c3 => exact rfl); (case c4 => exact rfl); k_whole; intro g' L' h' FG' F' N' B' X' T'; (try dsimp only); (try k_lift B'); (try k_fold)))
local macro_rules | `(tactic| k_all) => `(tactic| (refine ne_of_below (by assumption) ?_; first | exact Nat.le_refl _ | omega))
local macro_rules | `(tactic| k_mem) => `(tactic| first | exact List.Mem.head _ | (refine List.Mem.tail _ ?_; k_mem) | assumption)
theorem exc_inst {h₀ h : Heap} {L x C dx : Addr} {news : Led} {od : Obj} {fs : Array Value} {sl : Array (Option Value)} (N : News h₀ L h news) (h1 : (x, (⟨.ref C, some dx, .fields fs, sl⟩ : Obj)) ∈ news) (h2 : (dx, od) ∈ news) :
    InstAt h x ⟨.ref C, some dx, .fields fs, sl⟩ C (some od) := ⟨(N _ h1).1, rfl, rfl, (N _ h2).1⟩
local macro_rules | `(tactic| walk_at "setAttr ref") => `(tactic| (k_here; k_dflt (first
 | (refine' EX.exc_set1 ?k1 ?k2 ?k3 ?kp ?k4 ?k5 ?k6 ?k7 ?k8 ?_; (case k1 => k_asm); (case k2 => k_asm); (case k3 => k_asm); (case kp => k_all); (case k4 => k_is); (case k5 => k_is); (case k6 => rfl); (case k7 => rfl); (case k8 => k_is); intro d' h' F' N' l1 l2; (try k_lt l1); (try k_lt2 l2); (try k_sweep))
 | (refine' EX.exc_set (pre := []) ?k1 ?k2 ?k3 ?kI ?kd ?k4 ?k5 ?k6 ?k7 ?k8 ?kl ?ke ?kh1 ?kh2 ?kz ?_; (case k1 => k_asm); (case k2 => k_asm); (case k3 => k_asm); (case kI => (refine' exc_inst ?N ?h1 ?h2; (case N => k_asm); (case h1 => k_mem); (case h2 => k_mem))); (case kd => rfl); (case k4 => k_is); (case k5 => k_is); (case k6 => rfl); (case k7 => rfl); (case k8 => k_is); (case kl => k_get); (case ke => k_put); (case kh1 => exact fun _ h => nomatch h); (case kh2 => k_all); (case kz => exact Nat.le_of_ble_eq_true rfl); intro h' F' N'; (try dsimp only [List.nil_append] at N'); (try k_sweep)))))
theorem pe_new (w : World) (news : Led) (text : Str) (tt : Tok) :
    Does w 20 100 (call (.ref 87) [.str text tt]) news (fun r news' => ∃ e de a h1 h2 h3 k1 k2 k3 tp n, r = .ref e ∧ (∀ z ∈ news, z ∈ news') ∧ (∀ z ∈ news, z.1 < de) ∧ (e, ({ cls := .ref 87, dict := some de, data := .fields #[.ref a, .none, .none, .none, .bool false, .none] } : Obj)) ∈ news' ∧
      (de, dictOf [⟨h1, .str (Str.ofString "text") k1, .str text tt⟩, ⟨h2, .str (Str.ofString "pos") k2, .int (-1) tp⟩, ⟨h3, .str (Str.ofString "expr") k3, .none⟩] n) ∈ news' ∧ (a, tupO [.str text tt] 0) ∈ news' ∧ (∀ z ∈ news, z.1 < a) ∧ a < e) := by
  unfold Does
  k_fill
  intro dp un gd cn cs a ccd cl outer A₀ base h₀ L m s loose mean mg mb Q E B F X N T hk hdp hun hret
  refine pe_make F N X (Nat.le_of_ble_eq_true rfl) ?_
  intro a9 e9 h9 F9 N9 l1 l2
  replace l2 := ltN l2
  refine wpAny_call ?_
  k_enter
  k_steps
  refine hret _ _ _ _ (by assumption) (by assumption) ⟨e9, _, a9, _, _, _, _, _, _, _, _, rfl, fun z hz => by simp [hz], ?_, by k_mem, by k_mem, by k_mem, l1, ltN l2⟩
  intro z hz
  have a1 : @LT.lt Nat _ z.1 a9 := l1 z hz
  refine ltN ?_
  omega
end
section
theorem off_Op : True := by
  w_top off
  exact True.intro
theorem unr_Op {a b : Nat} (h : a < b) : a < b := h
local macro_rules | `(tactic| k_room) => `(tactic| ((try simp only [depth_under_make, depth_under_kw, depth_in1, depth_deeper, depth_caller]); (try dsimp only [ktrTop]); (try simp only [recursionLimit]); omega))
local macro_rules | `(tactic| k_units) => `(tactic| ((try simp only [units_in1, units_deeper, Around.mark_units, units_caller]); (try dsimp only [ktrTop]); (try simp only [cLine]); omega))
local macro_rules | `(tactic| k_enter) => `(tactic| (refine' code_def ?k1 ?k2 ?k3 ?k4 ?k5 ?kA ?kF ?kK ?k6 ?k7 ?k8 ?k9 ?kB ?_ ?c2 ?c3 ?c4 ?c5; (case kA => exact rfl); (case kF => exact rfl); (case kK => first | assumption | exact rfl); (case k1 => k_asm); (case k2 => k_asm); (case k3 => k_asm); (case k4 => k_asm); (case k5 => k_asm); (case k6 => k_is); (case k7 => k_is); (case k8 => k_room); (case k9 => first | exact BindsTo.of_eq rfl | exact binds_K (by k_in) rfl (by k_is) rfl rfl rfl | fail "k_enter: no rule for these arguments"); (case c5 => decide); (case kB => exact locs rfl); (case c2 => exact rfl); (case c3 => exact rfl); (case c4 => exact rfl); k_whole; intro g' L' h' FG' F' N' B' X' T'; (try dsimp only); (try k_lift B'); (try k_fold)))
local macro_rules | `(tactic| k_all) => `(tactic| (refine ne_of_below (by assumption) ?_; first | exact Nat.le_refl _ | omega))
local macro_rules | `(tactic| k_mem) => `(tactic| first | exact List.Mem.head _ | (refine List.Mem.tail _ ?_; k_mem) | assumption)
section
variable {w : World} {G : Gram} {c : Mt} {P : List (Addr × Nat)} {Z : List Addr} {g : Gh} {n n' : Led}
theorem ExprAt.nd {x : Addr} (h : ExprAt G n x) (s : ∀ z ∈ n, z.2.cls ≠ dT → z ∈ n') : ExprAt G n' x := by
  unfold ExprAt at h ⊢
  split <;> rename_i hk <;> rw [hk] at h <;> dsimp only at h
  · obtain ⟨tw, nm, nt, idt, h1⟩ := h
    exact ⟨tw, nm, nt, idt, s _ h1 (ne_ref _)⟩
  · obtain ⟨t, k, nm, nt, idt, h1, h2⟩ := h
    exact ⟨t, k, nm, nt, idt, s _ h1 (ne_ref _), s _ h2 ne_tup⟩
  · obtain ⟨t, k, nm, nt, idt, h1, h2⟩ := h
    exact ⟨t, k, nm, nt, idt, s _ h1 (ne_ref _), s _ h2 ne_tup⟩
  · obtain ⟨t, k, nm, nt, idt, h1, h2⟩ := h
    exact ⟨t, k, nm, nt, idt, s _ h1 (ne_ref _), s _ h2 ne_tup⟩
theorem OidsAt.nd {d : Addr} {prs : Prs} (h : OidsAt n d prs) (s : ∀ z ∈ n, (z.2.cls ≠ dT ∨ z.1 = d) → z ∈ n') : OidsAt n' d prs := by
  rcases h with ⟨e, k, h1⟩ | ⟨hs, tk, t, k, k2, h1, h2, h3⟩
  · exact .inl ⟨e, k, s _ h1 (.inr rfl)⟩
  · exact .inr ⟨hs, tk, t, k, k2, s _ h1 (.inr rfl), s _ h2 (.inl ne_tup), fun p hp => let ⟨tk', k', h4⟩ := h3 p hp; ⟨tk', k', s _ h4 (.inl ne_tup)⟩⟩
theorem ErrAt.nd {e de : Addr} (h : ErrAt G n e de) (s : ∀ z ∈ n, (z.2.cls ≠ dT ∨ z.1 = de) → z ∈ n') : ErrAt G n' e de := by
  obtain ⟨args, text, tt, pos, tp, ex, h1, h2, h3, k1, k2, k3, k, a, b, c⟩ := h
  exact ⟨args, text, tt, pos, tp, ex, h1, h2, h3, k1, k2, k3, k, s _ a (.inl (ne_ref _)), s _ b (.inr rfl), c⟩
theorem NodeB.nd {Mu : List Addr} {nd x : Addr} {text : Str} {p q : Int} {items : List Value} (h : NodeB Mu n nd x text p q items) (s : ∀ z ∈ n, (z.2.cls ≠ dT ∨ z.1 ∉ Mu) → z ∈ n') : NodeB Mu n' nd x text p q items := by
  obtain ⟨dx, ch, tt, tp, tq, k, od, hn, hn', h1, h2, h3⟩ := h
  exact ⟨dx, ch, tt, tp, tq, k, od, hn, hn', s _ h1 (.inl (ne_ref _)), s _ h2 (.inr hn), s _ h3 (.inl ne_list)⟩
theorem nd_of {h₀ h : Heap} {L a : Addr} {o : Obj} (N : News h₀ L h n) (ha : (a, o) ∈ n) (ho : o.cls = dT) (s : ∀ z ∈ n, z.1 ≠ a → z ∈ n') : ∀ z ∈ n, z.2.cls ≠ dT → z ∈ n' := fun z hz hc => s z hz fun e =>
  hc (by rw [sameAddr N (a := a) (o := z.2) (o' := o) (e ▸ hz) ha]; exact ho)
theorem dom_of {a : Addr} {o' : Obj} (ha : (a, o') ∈ n') (s : ∀ z ∈ n, z.1 ≠ a → z ∈ n') : ∀ z ∈ n, ∃ o, (z.1, o) ∈ n' := fun z hz => by
  by_cases e : z.1 = a
  · exact ⟨o', e ▸ ha⟩
  · exact ⟨z.2, s z hz e⟩
theorem dd_of {a : Addr} {o' : Obj} (ha : (a, o') ∈ n') (ho : o'.cls = dT) (s : ∀ z ∈ n, z.1 ≠ a → z ∈ n') : ∀ z ∈ n, z.2.cls = dT → ∃ o, (z.1, o) ∈ n' ∧ o.cls = dT := fun z hz hc => by
  by_cases e : z.1 = a
  · exact ⟨o', e ▸ ha, ho⟩
  · exact ⟨z.2, s z hz e, hc⟩
theorem in_mu_dx {x : Addr} (hx : x ∈ G.xs) : G.dx x ∈ g.mu G c := List.mem_append_left _ (List.mem_map_of_mem hx)
theorem in_mu_de : c.de ∈ g.mu G c := List.mem_append_right _ (.head _)
theorem in_mu_C : c.C ∈ g.mu G c := List.mem_append_right _ (.tail _ (.head _))
theorem in_mu_D {D : Addr} (h : D ∈ g.Ds) : D ∈ g.mu G c := List.mem_append_right _ (.tail _ (.tail _ h))
theorem not_mu {Mu Z : List Addr} {a : Addr} (ha : a ∈ Mu) (s : ∀ z ∈ n, z.1 ≠ a → z ∈ n') : ∀ z ∈ n, z.1 ∉ Mu ++ Z → z ∈ n' := fun z hz hn => s z hz fun e => hn (List.mem_append_left _ (e ▸ ha))
theorem Inv.rowin (_h : Inv w G c P Z g n) {x : Addr} {j : Nat} {D : Addr} (_hx : x ∈ G.xs) (hD : g.Ds[j]? = some D) : D ∈ g.Ds := List.mem_of_getElem? hD
theorem Step.put {M M' : List Addr} {n0 : Led} {a : Addr} {o o' : Obj} {h₀ h : Heap} {L : Addr} (N : News h₀ L h n) (S : Step M M' n0 n) (hm : a ∈ M') (ha : (a, o) ∈ n) (ho : o.cls = dT) (ha' : (a, o') ∈ n') (s : ∀ z ∈ n, z.1 ≠ a → z ∈ n') : Step M M' n0 n' where
  kept := fun z hz hc => by
    have hz' := S.kept z hz hc
    rcases hc with hc | hc
    · exact nd_of N ha ho s z hz' hc
    · exact s z hz' fun e => (S.new a hm).elim (fun q => hc (e ▸ q)) fun hl => Nat.lt_irrefl _ (e ▸ hl z hz)
  dom := fun z hz => let ⟨o, x⟩ := S.dom z hz; dom_of ha' s (z.1, o) x
  new := S.new
  sub := S.sub

/-- the error turns -/
theorem Inv.setErr {h₀ h : Heap} {L : Addr} {o o' : Obj} (N : News h₀ L h n) (hI : Inv w G c P Z g n) (ha : (c.de, o) ∈ n) (ho : o.cls = dT) (ha' : (c.de, o') ∈ n') (ho' : o'.cls = dT) (s : ∀ z ∈ n, z.1 ≠ c.de → z ∈ n') (hE : ErrAt G n' c.e c.de) : Inv w G c P Z g n' :=
  have nd := nd_of N ha ho s
  have nb : ∀ z ∈ n, z.1 ∉ g.mu G c ++ Z → z ∈ n' := not_mu in_mu_de s
  { expr := fun x hx => (hI.expr x hx).nd nd
    oids := fun x hx => let ⟨prs, a, b⟩ := hI.oids x hx; ⟨prs, a.nd fun z hz hc => hc.elim (nd z hz) fun e => s z hz (e ▸ Nat.ne_of_lt (hI.dxlt x hx)), b.1, b.2.of (dd_of ha' ho' s)⟩
    cache := let ⟨o, kvs, a, b⟩ := hI.cache; ⟨o, kvs, s _ a (Nat.ne_of_gt hI.delt), b⟩
    cne := hI.cne
    rows := fun x hx j hj => let ⟨D, o, kvs, a, b, c1, d, f⟩ := hI.rows x hx j hj
      ⟨D, o, kvs, a, s _ b (Nat.ne_of_gt (Nat.lt_trans hI.delt (hI.dlt D (List.mem_of_getElem? a)))), c1, d, fun kv hkv => let ⟨p, p1, p2, p3⟩ := f kv hkv; ⟨p, p1, p2, p3.imp id fun r => r.map fun _ _ _ _ _ b => b.nd fun z hz hc => hc.elim (nd z hz) (nb z hz)⟩⟩
    owninj := hI.owninj
    cnt := hI.cnt
    dxlt := hI.dxlt
    delt := hI.delt
    dlt := hI.dlt
    dnd := hI.dnd
    dsd := fun D hD => let ⟨o, a, b⟩ := hI.dsd D hD; ⟨o, s _ a (Nat.ne_of_gt (Nat.lt_trans hI.delt (hI.dlt D hD))), b⟩
    zin := fun a hz => let ⟨o, x⟩ := hI.zin a hz; dom_of ha' s (a, o) x
    err := hE
    pin := hI.pin }

/-- a row turns -/
theorem Inv.setRow {P' : List (Addr × Nat)} {h₀ h : Heap} {L : Addr} {x D : Addr} {j : Nat} {o o' : Obj} {kvs' : List (Int × Value)} (N : News h₀ L h n) (hI : Inv w G c P Z g n) (hx : x ∈ G.xs) (hj : g.own x = some j) (hD : g.Ds[j]? = some D) (ha : (D, o) ∈ n) (ho : o.cls = dT) (ha' : (D, o') ∈ n') (s : ∀ z ∈ n, z.1 ≠ D → z ∈ n')
    (hd : o'.IsDictOf (intKind theProg w) kvs') (hP : ∀ y q, y ≠ x → (y, q) ∈ P → (y, q) ∈ P')
    (hk : ∀ kv ∈ kvs', ∃ p : Nat, kv.1 = (p : Int) ∧ p ≤ G.text.length ∧ ((kv.2 = .ref 251 ∧ (x, p) ∈ P') ∨ Res G (g.mu G c ++ Z) n x p kv.2)) : Inv w G c P' Z g n' :=
  have hDm := List.mem_of_getElem? hD
  have nd := nd_of N ha ho s
  have nb : ∀ z ∈ n, z.1 ∉ g.mu G c ++ Z → z ∈ n' := not_mu (in_mu_D hDm) s
  have nr : ∀ {y p v}, Res G (g.mu G c ++ Z) n y p v → Res G (g.mu G c ++ Z) n' y p v := fun r => r.map fun _ _ _ _ _ b => b.nd fun z hz hc => hc.elim (nd z hz) (nb z hz)
  have CD := hI.dlt D hDm
  { expr := fun y hy => (hI.expr y hy).nd nd
    oids := fun y hy => let ⟨prs, a, b⟩ := hI.oids y hy; ⟨prs, a.nd fun z hz hc => hc.elim (nd z hz) fun e => s z hz (e ▸ Nat.ne_of_lt (Nat.lt_trans (hI.dxlt y hy) (Nat.lt_trans hI.delt CD))), b.1, b.2.of (dd_of ha' (dict_cls hd) s)⟩
    cache := let ⟨o, kvs, a, b⟩ := hI.cache; ⟨o, kvs, s _ a (Nat.ne_of_lt CD), b⟩
    cne := hI.cne
    rows := fun y hy i hi => by
      obtain ⟨D2, o2, kvs, a, b, c1, d, f⟩ := hI.rows y hy i hi
      by_cases e : y = x
      · subst e
        have : i = j := Option.some.inj (hi.symm.trans hj)
        subst this
        have : D2 = D := Option.some.inj (a.symm.trans hD)
        subst this
        exact ⟨D2, o', kvs', a, ha', hd, d, fun kv hkv => let ⟨p, p1, p2, p3⟩ := hk kv hkv; ⟨p, p1, p2, p3.imp id nr⟩⟩
      · have hne : D2 ≠ D := fun q => by
          subst q
          have hij : i = j := by
            obtain ⟨h1, e1⟩ := List.getElem?_eq_some_iff.mp a
            obtain ⟨h2, e2⟩ := List.getElem?_eq_some_iff.mp hD
            exact (List.getElem_inj hI.dnd).mp (e1.trans e2.symm)
          exact e (hI.owninj y hy x hx i hi (hij ▸ hj))
        exact ⟨D2, o2, kvs, a, s _ b hne, c1, d, fun kv hkv => let ⟨p, p1, p2, p3⟩ := f kv hkv; ⟨p, p1, p2, p3.imp (fun q => ⟨q.1, hP y p e q.2⟩) nr⟩⟩
    owninj := hI.owninj
    cnt := hI.cnt
    dxlt := hI.dxlt
    delt := hI.delt
    dlt := hI.dlt
    dnd := hI.dnd
    dsd := fun D2 hD2 => by
      by_cases e : D2 = D
      · subst e
        exact ⟨o', ha', dict_cls hd⟩
      · exact let ⟨o, a, b⟩ := hI.dsd D2 hD2; ⟨o, s _ a e, b⟩
    zin := fun a hz => let ⟨o, x⟩ := hI.zin a hz; dom_of ha' s (a, o) x
    err := hI.err.nd fun z hz hc => hc.elim (nd z hz) fun e => s z hz (e ▸ Nat.ne_of_lt (Nat.lt_trans hI.delt CD))
    pin := hI.pin }
end
end
section
theorem off_Oq : True := by
  w_top off
  exact True.intro
theorem unr_Oq {a b : Nat} (h : a < b) : a < b := h
local macro_rules | `(tactic| k_room) => `(tactic| ((try simp only [depth_under_make, depth_under_kw, depth_in1, depth_deeper, depth_caller]); (try dsimp only [ktrTop]); (try simp only [recursionLimit]); omega))
local macro_rules | `(tactic| k_units) => `(tactic| ((try simp only [units_in1, units_deeper, Around.mark_units, units_caller]); (try dsimp only [ktrTop]); (try simp only [cLine]); omega))
local macro_rules | `(tactic| k_enter) => `(tactic| (refine' code_def ?k1 ?k2 ?k3 ?k4 ?k5 ?kA ?kF ?kK ?k6 ?k7 ?k8 ?k9 ?kB ?_ ?c2 ?c3 ?c4 ?c5; (case kA => exact rfl); (case kF => exact rfl); (case kK => first | assumption | exact rfl); (case k1 => k_asm); (case k2 => k_asm); (case k3 => k_asm); (case k4 => k_asm); (case k5 => k_asm); (case k6 => k_is); (case k7 => k_is); (case k8 => k_room); (case k9 => first | exact BindsTo.of_eq rfl | exact binds_K (by k_in) rfl (by k_is) rfl rfl rfl | fail "k_enter: no rule for these arguments"); (case c5 => decide); (case kB => exact locs rfl); (case c2 => exact rfl); (case c3 => exact rfl); (case c4 => exact rfl); k_whole; intro g' L' h' FG' F' N' B' X' T'; (try dsimp only); (try k_lift B'); (try k_fold)))
local macro_rules | `(tactic| k_all) => `(tactic| (refine ne_of_below (by assumption) ?_; first | exact Nat.le_refl _ | omega))
local macro_rules | `(tactic| k_mem) => `(tactic| first | exact List.Mem.head _ | (refine List.Mem.tail _ ?_; k_mem) | assumption)
theorem valueAt_append {K : Type} [DecidableEq K] (kvs : List (K × Value)) (k i : K) (v : Value) : valueAt (kvs ++ [(k, v)]) i = (valueAt kvs i).or (if k = i then some v else none) := by
  unfold valueAt
  rw [List.find?_append]
  cases h : kvs.find? (fun kv => kv.1 = i) with
  | some p => rfl
  | none =>
    by_cases e : k = i
    · simp [e]
    · simp [e]
theorem any_of_valueAt {K : Type} [DecidableEq K] {kvs : List (K × Value)} {k : K} (h : valueAt kvs k = none) : kvs.any (fun kv => kv.1 = k) = false := by
  unfold valueAt at h
  rw [Option.map_eq_none_iff, List.find?_eq_none] at h
  rw [List.any_eq_false]
  exact fun x hx => by simpa using h x hx
theorem stored_new {K : Type} [DecidableEq K] {kvs : List (K × Value)} {k : K} {v : Value} (h : valueAt kvs k = none) : stored kvs k v = kvs ++ [(k, v)] := by
  unfold stored
  rw [if_neg (by rw [any_of_valueAt h]; decide)]
theorem filter_more {own : Addr → Option Nat} {x : Addr} {j : Nat} (hx : own x = none) : ∀ (xs : List Addr), xs.Nodup → x ∈ xs →
    (xs.filter fun y => ((if y = x then some j else own y) : Option Nat).isSome).length = (xs.filter fun y => (own y).isSome).length + 1
  | [], _, h => nomatch h
  | a :: r, hn, h => by
    obtain ⟨ha, hr⟩ := List.nodup_cons.mp hn
    by_cases e : a = x
    · subst e
      have same : (r.filter fun y => ((if y = a then some j else own y) : Option Nat).isSome) = r.filter fun y => (own y).isSome := by
        refine List.filter_congr fun y hy => ?_
        rw [if_neg (fun (q : y = a) => ha (q ▸ hy))]
      rw [List.filter_cons_of_pos (by simp), List.filter_cons_of_neg (by simp [hx]), List.length_cons, same]
    · have h' : x ∈ r := (List.mem_cons.mp h).resolve_left (fun q => e q.symm)
      have ih := filter_more (j := j) hx r hr h'
      cases ho : own a with
      | none => rw [List.filter_cons_of_neg (by simp [e, ho]), List.filter_cons_of_neg (by simp [ho]), ih]
      | some k => rw [List.filter_cons_of_pos (by simp [e, ho]), List.filter_cons_of_pos (by simp [ho]), List.length_cons, List.length_cons, ih]
section
variable {w : World} {G : Gram} {c : Mt} {P : List (Addr × Nat)} {Z : List Addr} {g : Gh} {n n' : Led}
def Gh.visit (g : Gh) (x D : Addr) : Gh := { Ds := g.Ds ++ [D], own := fun y => if y = x then some g.Ds.length else g.own y }
theorem mu_visit {x D : Addr} : ∀ a ∈ (g.visit x D).mu G c, a ∈ g.mu G c ∨ a = D := fun a ha => by
  unfold Gh.mu Gh.visit at *
  simp only [List.mem_append, List.mem_cons, List.not_mem_nil, or_false] at ha ⊢
  rcases ha with ha | ha | ha | ha | ha <;> simp [ha]
theorem Inv.newRow {h₀ h : Heap} {L : Addr} {x D a : Addr} {oC oC' ox oD : Obj} {kvs : List (Int × Value)} {prs : Prs} (hG : G.Ok) (N : News h₀ L h n) (hI : Inv w G c P Z g n) (hx : x ∈ G.xs) (hown : g.own x = none)
    (hC : (c.C, oC) ∈ n) (hCd : oC.cls = dT) (hdx : (G.dx x, ox) ∈ n) (hdxd : ox.cls = dT) (s : ∀ z ∈ n, z.1 ≠ c.C → z.1 ≠ G.dx x → z ∈ n')
    (hl : kvs.length = g.Ds.length) (hv : ∀ k : Nat, valueAt kvs (k : Int) = (g.Ds[k]?).map .ref) (hC' : (c.C, oC') ∈ n') (hd : oC'.IsDictOf (intKind theProg w) (stored kvs (g.Ds.length : Int) (.ref D)))
    (hf : ∀ z ∈ n, z.1 < D) (hD' : (D, oD) ∈ n') (hDd : oD.IsDictOf (intKind theProg w) []) (hDs : (D == sysModules) = false)
    (hprs : (∀ p ∈ prs, p.2.2 < c.C) ∧ prs.length ≤ c.B) (hL : Live n prs) (hO : OidsAt n' (G.dx x) ((a, g.Ds.length, D) :: prs)) : Inv w G c P Z (g.visit x D) n' := by
  have nd : ∀ z ∈ n, z.2.cls ≠ dT → z ∈ n' := fun z hz hc => s z hz (fun e => hc (by rw [sameAddr N (a := c.C) (o := z.2) (o' := oC) (e ▸ hz) hC]; exact hCd)) fun e => hc (by rw [sameAddr N (a := G.dx x) (o := z.2) (o' := ox) (e ▸ hz) hdx]; exact hdxd)
  have CD : c.C < D := hf _ hC
  have hdxC : G.dx x < c.C := Nat.lt_trans (hI.dxlt x hx) hI.delt
  obtain ⟨oX', hX', hXd⟩ : ∃ o, (G.dx x, o) ∈ n' ∧ o.cls = dT := by rcases hO with ⟨e, _⟩ | ⟨_, _, _, _, _, h1, _⟩ <;> first | cases e | exact ⟨_, h1, rfl⟩
  have dd : ∀ z ∈ n, z.2.cls = dT → ∃ o, (z.1, o) ∈ n' ∧ o.cls = dT := fun z hz hc => by
    by_cases e1 : z.1 = c.C
    · exact ⟨oC', e1 ▸ hC', dict_cls hd⟩
    · by_cases e2 : z.1 = G.dx x
      · exact ⟨oX', e2 ▸ hX', hXd⟩
      · exact ⟨z.2, s z hz e1 e2, hc⟩
  have back : ∀ z ∈ n, ∃ o, (z.1, o) ∈ n' := fun z hz => by
    by_cases e1 : z.1 = c.C
    · exact ⟨oC', e1 ▸ hC'⟩
    · by_cases e2 : z.1 = G.dx x
      · exact ⟨oX', e2 ▸ hX'⟩
      · exact ⟨z.2, s z hz e1 e2⟩
  have nr : ∀ {y p v}, Res G (g.mu G c ++ Z) n y p v → Res G ((g.visit x D).mu G c ++ Z) n' y p v := fun r => r.map fun _ _ _ _ _ b => by
    have b2 := b.wide (Mu' := (g.visit x D).mu G c ++ Z) fun a ha => by
      rcases List.mem_append.mp ha with ha | ha
      · exact (mu_visit a ha).elim (fun q => .inl (List.mem_append_left _ q)) fun (q : a = D) => .inr (fun z hz => q ▸ hf z hz)
      · exact .inl (List.mem_append_right _ ha)
    refine b2.nd fun z hz hc => hc.elim (nd z hz) fun q => s z hz (fun e => q (List.mem_append_left _ (e ▸ in_mu_C))) fun e => q (List.mem_append_left _ (e ▸ in_mu_dx hx))
  have hvn : valueAt kvs (g.Ds.length : Int) = none := by rw [hv, List.getElem?_eq_none (Nat.le_refl _)]; rfl
  rw [stored_new hvn] at hd
  have hDn : ∀ D2 ∈ g.Ds, D2 < D := fun D2 h2 => let ⟨o, q, _⟩ := hI.dsd D2 h2; hf _ q
  refine { expr := fun y hy => (hI.expr y hy).nd nd, oids := fun y hy => ?_, cache := ⟨oC', _, hC', hd, ?_, fun k => ?_⟩, cne := hI.cne, rows := fun y hy i hi => ?_, owninj := fun y hy z hz i h1 h2 => ?_, cnt := ?_, dxlt := hI.dxlt, delt := hI.delt, dlt := fun D2 h2 => ?_, dnd := ?_, dsd := fun D2 h2 => ?_, zin := fun a ha => let ⟨o, q⟩ := hI.zin a ha; back (a, o) q, err := hI.err.nd fun z hz hc => hc.elim (nd z hz) fun e => s z hz (e ▸ Nat.ne_of_lt hI.delt) (e ▸ Nat.ne_of_gt (hI.dxlt x hx)), pin := fun t ht => ?_ }
  · by_cases e : y = x
    · subst e
      refine ⟨_, hO, ?_, fun q hq => (List.mem_cons.mp hq).elim (fun e => ⟨oD, by subst e; exact hD', dict_cls hDd⟩) fun h => (hL.of dd) q h⟩
      unfold Gh.visit
      dsimp only
      rw [if_pos rfl]
      exact ⟨a, D, prs, rfl, by rw [List.getElem?_append_right (Nat.le_refl _), Nat.sub_self]; rfl, hprs⟩
    · obtain ⟨prs2, q1, q2, q3⟩ := hI.oids y hy
      have hne : G.dx y ≠ G.dx x := fun q => e (hG.dxinj y hy x hx q)
      refine ⟨prs2, q1.nd fun z hz hc => hc.elim (nd z hz) fun e => s z hz (e ▸ Nat.ne_of_lt (Nat.lt_trans (hI.dxlt y hy) hI.delt)) (e ▸ hne), ?_, q3.of dd⟩
      unfold Gh.visit
      dsimp only
      rw [if_neg e]
      cases ho : g.own y with
      | none => rw [ho] at q2; exact q2
      | some j =>
        rw [ho] at q2
        obtain ⟨a2, D2, rest, r1, r2, r3⟩ := q2
        exact ⟨a2, D2, rest, r1, by rw [List.getElem?_append_left (List.getElem?_eq_some_iff.mp r2).1]; exact r2, r3⟩
  · rw [List.length_append, hl]; show _ = (g.Ds ++ [D]).length; rw [List.length_append]; rfl
  · rw [valueAt_append, hv]
    show _ = ((g.Ds ++ [D])[k]?).map Value.ref
    by_cases e1 : k < g.Ds.length
    · rw [List.getElem?_append_left e1, if_neg (by omega)]
      cases ((g.Ds)[k]?).map Value.ref <;> rfl
    · rw [List.getElem?_eq_none (Nat.le_of_not_lt e1)]
      by_cases e2 : k = g.Ds.length
      · subst e2; rw [if_pos rfl, List.getElem?_append_right (Nat.le_refl _), Nat.sub_self]; rfl
      · rw [if_neg (by omega), List.getElem?_eq_none (by rw [List.length_append, List.length_singleton]; omega)]; rfl
  · unfold Gh.visit at hi
    dsimp only at hi
    by_cases e : y = x
    · subst e
      rw [if_pos rfl] at hi
      cases hi
      exact ⟨D, oD, [], by show (g.Ds ++ [D])[g.Ds.length]? = _; rw [List.getElem?_append_right (Nat.le_refl _), Nat.sub_self]; rfl, hD', hDd, hDs, fun _ h => nomatch h⟩
    · rw [if_neg e] at hi
      obtain ⟨D2, o2, kvs2, q1, q2, q3, q4, q5⟩ := hI.rows y hy i hi
      have hlt := hI.dlt D2 (List.mem_of_getElem? q1)
      exact ⟨D2, o2, kvs2, by show (g.Ds ++ [D])[i]? = _; rw [List.getElem?_append_left (List.getElem?_eq_some_iff.mp q1).1]; exact q1, s _ q2 (Nat.ne_of_gt hlt) (Nat.ne_of_gt (Nat.lt_trans hdxC hlt)), q3, q4,
        fun kv hkv => let ⟨p, p1, p2, p3⟩ := q5 kv hkv; ⟨p, p1, p2, p3.imp id nr⟩⟩
  · unfold Gh.visit at h1 h2
    dsimp only at h1 h2
    have small : ∀ y ∈ G.xs, ∀ i, g.own y = some i → i ≠ g.Ds.length := fun y hy i hi => by
      obtain ⟨D2, _, _, q1, _⟩ := hI.rows y hy i hi
      exact Nat.ne_of_lt (List.getElem?_eq_some_iff.mp q1).1
    by_cases e1 : y = x
    · by_cases e2 : z = x
      · exact e1.trans e2.symm
      · rw [if_pos e1] at h1; rw [if_neg e2] at h2; cases h1; exact absurd rfl (small z hz _ h2)
    · by_cases e2 : z = x
      · rw [if_neg e1] at h1; rw [if_pos e2] at h2; cases h2; exact absurd rfl (small y hy _ h1)
      · rw [if_neg e1] at h1; rw [if_neg e2] at h2; exact hI.owninj y hy z hz i h1 h2
  · show (g.Ds ++ [D]).length = _
    unfold Gh.visit
    dsimp only
    rw [filter_more hown G.xs hG.nodup hx, ← hI.cnt, List.length_append, List.length_singleton]
  · rcases List.mem_append.mp h2 with h2 | h2
    · exact hI.dlt D2 h2
    · rw [List.mem_singleton.mp h2]; exact CD
  · refine List.nodup_append.mpr ⟨hI.dnd, List.nodup_cons.mpr ⟨(fun h => nomatch h), List.nodup_nil⟩, fun b hb d hd => ?_⟩
    rw [List.mem_singleton.mp hd]
    exact Nat.ne_of_lt (hDn b hb)
  · rcases List.mem_append.mp h2 with h2 | h2
    · obtain ⟨o, q1, q2⟩ := hI.dsd D2 h2
      have hlt := hI.dlt D2 h2
      exact ⟨o, s _ q1 (Nat.ne_of_gt hlt) (Nat.ne_of_gt (Nat.lt_trans hdxC hlt)), q2⟩
    · rw [List.mem_singleton.mp h2]; exact ⟨oD, hD', dict_cls hDd⟩
  · obtain ⟨p1, p2⟩ := hI.pin t ht
    refine ⟨?_, ?_⟩
    · show (if t.1 = x then some g.Ds.length else g.own t.1) = _
      rw [if_neg (fun e => by rw [e, hown] at p1; cases p1)]
      exact p1
    · show (g.Ds ++ [D])[t.2.1]? = _
      rw [List.getElem?_append_left (List.getElem?_eq_some_iff.mp p2).1]
      exact p2
theorem Step.visit {x D : Addr} {oC oX oX' oC' : Obj} {h₀ h : Heap} {L : Addr} (N : News h₀ L h n) (hx : x ∈ G.xs) (hC : (c.C, oC) ∈ n) (hCd : oC.cls = dT) (hX : (G.dx x, oX) ∈ n) (hXd : oX.cls = dT) (hC' : (c.C, oC') ∈ n') (hX' : (G.dx x, oX') ∈ n') (s : ∀ z ∈ n, z.1 ≠ c.C → z.1 ≠ G.dx x → z ∈ n') (hf : ∀ z ∈ n, z.1 < D) :
    Step (g.mu G c) ((g.visit x D).mu G c) n n' where
  kept := fun z hz hc => s z hz (fun e => hc.elim (fun q => q (by rw [sameAddr N (a := c.C) (o := z.2) (o' := oC) (e ▸ hz) hC]; exact hCd)) fun q => q (e ▸ in_mu_C)) fun e => hc.elim (fun q => q (by rw [sameAddr N (a := G.dx x) (o := z.2) (o' := oX) (e ▸ hz) hX]; exact hXd)) fun q => q (e ▸ in_mu_dx hx)
  dom := fun z hz => by
    by_cases e1 : z.1 = c.C
    · exact ⟨oC', e1 ▸ hC'⟩
    · by_cases e2 : z.1 = G.dx x
      · exact ⟨oX', e2 ▸ hX'⟩
      · exact ⟨z.2, s z hz e1 e2⟩
  new := fun a ha => (mu_visit a ha).imp id fun (e : a = D) z hz => e ▸ hf z hz
  sub := fun a ha => by
    unfold Gh.mu Gh.visit at *
    simp only [List.mem_append, List.mem_cons, List.not_mem_nil, or_false] at ha ⊢
    rcases ha with ha | ha | ha | ha <;> simp [ha]
end
end
section
theorem off_Pl : True := by
  w_top off
  exact True.intro
theorem unr_Pl {a b : Nat} (h : a < b) : a < b := h
local macro_rules | `(tactic| k_room) => `(tactic| ((try simp only [depth_under_make, depth_under_kw, depth_in1, depth_deeper, depth_caller]); (try dsimp only [ktrTop]); (try simp only [recursionLimit]); omega))
local macro_rules | `(tactic| k_units) => `(tactic| ((try simp only [units_in1, units_deeper, Around.mark_units, units_caller]); (try dsimp only [ktrTop]); (try simp only [cLine]); omega))
local macro_rules | `(tactic| k_enter) => `(tactic| (refine' code_def ?k1 ?k2 ?k3 ?k4 ?k5 ?kA ?kF ?kK ?k6 ?k7 ?k8 ?k9 ?kB ?_ ?c2 ?c3 ?c4 ?c5; (case kA => exact rfl); (case kF => exact rfl); (case kK => first | assumption | exact rfl); (case k1 => k_asm); (case k2 => k_asm); (case k3 => k_asm); (case k4 => k_asm); (case k5 => k_asm); (case k6 => k_is); (case k7 => k_is); (case k8 => k_room); (case k9 => first | exact BindsTo.of_eq rfl | exact binds_K (by k_in) rfl (by k_is) rfl rfl rfl | fail "k_enter: no rule for these arguments"); (case c5 => decide); (case kB => exact locs rfl); (case c2 => exact rfl); (case c3 => exact rfl); (case c4 => exact rfl); k_whole; intro g' L' h' FG' F' N' B' X' T'; (try dsimp only); (try k_lift B'); (try k_fold)))
local macro_rules | `(tactic| k_all) => `(tactic| (refine ne_of_below (by assumption) ?_; first | exact Nat.le_refl _ | omega))
local macro_rules | `(tactic| k_mem) => `(tactic| first | exact List.Mem.head _ | (refine List.Mem.tail _ ?_; k_mem) | assumption)
section
variable {prog : Program} {w : World} {A : Around} {E : Value → Shared → Prop} {s : Shared} {env : Env} {h₀ : Heap} {Q : Flow → Shared → Prop} {m : Str → Option Value} {news : Led}
theorem goes_tupiter {elts : List Expr} {x1} {pos : Pos} {I t T : Addr} {i : Nat} {Q : Unit → Shared → Prop} (hit : s.heap.IsTupleIter I t i) (hQ : Q () s) :
    wpAny (model prog w) A (letOwnedTupleGo (.Tuple elts x1 pos) (.ref I) (.ref T)) Q E s := by
  obtain ⟨o, ho, hc, hd⟩ := hit
  unfold letOwnedTupleGo
  refine wpAny_bind (wpAny_load ho ?_)
  rw [hc, hd]
  dsimp only
  rw [if_neg (by
    intro h
    rw [show (["enumerate", "zip", "dict_itemiterator", "dict_reverseitemiterator", "odict_iterator", "itertools.zip_longest", "itertools.pairwise"].contains "tuple_iterator") = false from by decide, Bool.false_and] at h
    cases h)]
  exact wpAny_pure hQ

/-- what a turn of such a loop leaves -/
def PairEnd (h₀ : Heap) (L : Addr) (m : Str → Option Value) (x1 x2 : Str) (s : Shared) (n₁ : Led) (miss : Prop) (Q : Flow → Shared → Prop) (f : Flow) (s₂ : Shared) : Prop := match f with
  | .brk => Q .next s₂
  | .ret v => Q (.ret v) s₂
  | _ => ∃ h' tk2 m' n', s₂ = { s with heap := h', toks := tk2 } ∧ Fr h₀ L h' m' ∧ News h₀ L h' n' ∧ (∀ z ∈ n₁, z ∈ n') ∧ (∀ z, z ≠ x1 → z ≠ x2 → m' z = m z) ∧ miss
theorem pairs_loop {x1 x2 : Str} {q1 q2 tp px : Pos} {k1 : Nat} {iter : Expr} {body orelse : List Stmt} {prs : Prs} {L : Addr} (miss : Addr × Nat × Addr → Prop)
    (hx1 : env.kindOf x1 = some .local) (hx2 : env.kindOf x2 = some .local) (hkd : (env.scope.kind == .class || (env.scope.kind == .module && env.locals != env.globals)) = false) (hh : A.handled = none) (hE : PassesOwn (model prog w) A env E)
    (_F₀ : Fr h₀ L s.heap m) (_N₀ : News h₀ L s.heap news) (hL : env.locals = L) (hs : ∀ x, foldedSetIterable iter env x = pure x)
    (heval : wpAny (model prog w) A (eval iter env) (fun xv s₁ => ∃ t k h tk m₁ n₁, xv = .ref t ∧ s₁ = { s with heap := h, toks := tk } ∧ Fr h₀ L h m₁ ∧ News h₀ L h n₁ ∧ (∀ z, z ≠ x1 → z ≠ x2 → m₁ z = m z) ∧ (∀ z ∈ news, z ∈ n₁) ∧ (t, tupO (prs.map fun p => .ref p.1) k) ∈ n₁ ∧ (∀ p ∈ prs, ∃ tk k', (p.1, tupO [.int p.2.1 tk, .ref p.2.2] k') ∈ n₁)) E s)
    (turn : ∀ (i : Nat) (p : Addr × Nat × Addr) (tk : Tok) (u : Str → Option Value) (h : Heap) (tk' : Nat) (n₁ : Led), prs[i]? = some p → Fr h₀ L h (fun z => if z = x2 then some (.ref p.2.2) else if z = x1 then some (.int p.2.1 tk) else anyBut [x1, x2] u m z) → News h₀ L h n₁ → (∀ z ∈ news, z ∈ n₁) →
      wpAny (model prog w) A (execs body env) (PairEnd h₀ L m x1 x2 s n₁ (miss p) Q) E { s with heap := h, toks := tk' })
    (done : ∀ u h tk n₁, (∀ p ∈ prs, miss p) → Fr h₀ L h (anyBut [x1, x2] u m) → News h₀ L h n₁ → (∀ z ∈ news, z ∈ n₁) → wpAny (model prog w) A (execs orelse env) Q E { s with heap := h, toks := tk }) :
    wpAny (model prog w) A (exec (.For (.Tuple [.Name x1 q1, .Name x2 q2] k1 tp) iter body orelse px) env) Q E s := by
  subst hL
  have any2 : ∀ {m₁ : Str → Option Value}, (∀ z, z ≠ x1 → z ≠ x2 → m₁ z = m z) → m₁ = anyBut [x1, x2] m₁ m := fun {m₁} hm => by
    funext z
    unfold anyBut
    cases h2 : [x1, x2].contains z with
    | true => rfl
    | false => obtain ⟨a, b⟩ := contains_two h2; exact hm z a b
  refine wpAny_For (wpAny_mono heval (fun xv s₁ h₁ => ?_) fun _ _ e => e) hs
  obtain ⟨t, k, h, tk, m₁, n₀, rfl, rfl, F₁, N₁, hm₁, hsub, ht, hps⟩ := h₁
  have hts : h.IsTuple t (prs.map fun p => Value.ref p.1).toArray := ⟨_, (N₁ _ ht).1, rfl, _, rfl⟩
  refine wpAny_pyIter_tuple hts ?_
  have nlt : ∀ z ∈ n₀, z.1 < h.objs.size := fun z hz => Heap.lt_size (N₁ z hz).1
  have hIL : h.objs.size ≠ env.locals := Nat.ne_of_gt F₁.ns.lt
  have hI0 : h₀.get? h.objs.size = none := next_is_new F₁
  have hNt : ∀ {h'}, News h₀ env.locals h' n₀ → h'.IsTuple t (prs.map fun p => Value.ref p.1).toArray := fun N => ⟨_, (N _ ht).1, rfl, _, rfl⟩
  have htI : t ≠ h.objs.size := Nat.ne_of_lt (nlt _ ht)
  refine codeAny_forLoop_any (fun n s' => ∃ i h' tk' m' , s' = { s with heap := h', toks := tk' } ∧ h'.IsTupleIter h.objs.size t i ∧ Fr h₀ env.locals h' m' ∧ News h₀ env.locals h' n₀ ∧ (∀ z, z ≠ x1 → z ≠ x2 → m' z = m z) ∧ n + i = prs.length + 1 ∧ i ≤ prs.length ∧ ∀ j p, j < i → prs[j]? = some p → miss p) ?_ (prs.length + 1)
    ⟨0, _, tk, m₁, rfl, ⟨_, Heap.get?_push_size _ rfl, rfl, rfl⟩, F₁.push _, fun p hp => ⟨Heap.get?_push_of_some _ (N₁ p hp).1, (N₁ p hp).2⟩, hm₁, rfl, Nat.zero_le _, fun _ _ h => absurd h (Nat.not_lt_zero _)⟩
  rintro n s' ⟨i, h', tk', m', rfl, hit, F', N', hm', hn, hi, hmi⟩
  cases hp : prs[i]? with
  | none =>
    have hil : i = prs.length := Nat.le_antisymm hi (by simpa using hp)
    refine wpAny_pyNext_tuple_end hh hit (hNt N') (by simp [hp]) fun h2 he2 => ?_
    have F2 : Fr h₀ env.locals h2 m' := ⟨F'.ns.at' fun o e => he2 _ o hIL.symm e, fun b o e => he2 b o (fun q => by rw [q] at e; rw [hI0] at e; cases e) (F'.keep b o e), F'.above⟩
    have N2 : News h₀ env.locals h2 n₀ := fun p hp => ⟨he2 _ _ (Nat.ne_of_lt (nlt p hp)) (N' p hp).1, (N' p hp).2⟩
    rw [any2 hm'] at F2
    exact wpAny_passesOwn hE (done m' h2 tk' n₀ (fun p hp' => let ⟨j, hj⟩ := List.getElem?_of_mem hp'; hmi j p (hil ▸ (List.getElem?_eq_some_iff.mp hj).1) hj) F2 N2 hsub)
  | some p =>
    have hlt : i < prs.length := (List.getElem?_eq_some_iff.mp hp).1
    refine wpAny_pyNext_tuple_item (x := .ref p.1) hit (hNt N') (by simp [hp]) fun h2 hit2 hs2 => ?_
    have F2 : Fr h₀ env.locals h2 m' := ⟨F'.ns.at' fun o e => (hs2.2 _ hIL.symm).trans e, fun b o e => (hs2.2 b fun q => by rw [q] at e; rw [hI0] at e; cases e).trans (F'.keep b o e), F'.above⟩
    have N2 : News h₀ env.locals h2 n₀ := fun p hp => ⟨(hs2.2 _ (Nat.ne_of_lt (nlt p hp))).trans (N' p hp).1, (N' p hp).2⟩
    refine goes_tupiter hit2 ?_
    obtain ⟨tkp, k', hpt⟩ := hps p (List.mem_of_getElem? hp)
    have hpT : h2.IsTuple p.1 (#[.int p.2.1 tkp, .ref p.2.2] : Array Value) := ⟨_, (N2 _ hpt).1, rfl, _, rfl⟩
    refine wpAny_assign_Tuple hh hpT rfl rfl fun h3 he3 => ?_
    obtain ⟨oI, hI1, hI2, hI3⟩ := hit2
    have big : ∀ b o, h2.get? b = some o → h3.get? b = some o := fun b o e => he3 b o (Nat.ne_of_lt (Heap.lt_size e)) e
    have F3 := Fr.keeps F2 big
    have N3 : News h₀ env.locals h3 ((h.objs.size, oI) :: n₀) := fun q hq => by
      rcases List.mem_cons.mp hq with rfl | hq
      · exact ⟨big _ _ hI1, hIL, hI0⟩
      · exact ⟨big _ _ (N2 q hq).1, (N2 q hq).2⟩
    show wpAny _ _ (assignInOrder [fun v => assign (.Name x1 q1) env v, fun v => assign (.Name x2 q2) env v] [.int p.2.1 tkp, .ref p.2.2]) _ _ _
    unfold assignInOrder
    refine wpAny_bind (wpAny_holding (wpAny_assign_Name (wpAny_storeName_local hx1 F3.ns (fun h4 n4 s4 => ?_) hkd)))
    have F4 := Fr.set F3 n4 s4
    have N4 := News.set N3 s4
    unfold assignInOrder
    refine wpAny_bind (wpAny_holding (wpAny_assign_Name (wpAny_storeName_local hx2 F4.ns (fun h5 n5 s5 => ?_) hkd)))
    have F5 := Fr.set F4 n5 s5
    have N5 := News.set N4 s5
    unfold assignInOrder
    refine wpAny_pure ?_
    rw [any2 hm'] at F5
    refine wpAny_mono (wpAny_passesOwn hE (turn i p tkp m' h5 _ _ hp F5 N5 fun z hz => .tail _ (hsub z hz))) (fun f s₂ q => ?_) fun _ _ e => e
    have fin : (∃ h' tk2 m' n', s₂ = { s with heap := h', toks := tk2 } ∧ Fr h₀ env.locals h' m' ∧ News h₀ env.locals h' n' ∧ (∀ z ∈ (h.objs.size, oI) :: n₀, z ∈ n') ∧ (∀ z, z ≠ x1 → z ≠ x2 → m' z = m z) ∧ miss p) →
        (∃ i h' tk' m' , s₂ = { s with heap := h', toks := tk' } ∧ h'.IsTupleIter h.objs.size t i ∧ Fr h₀ env.locals h' m' ∧ News h₀ env.locals h' n₀ ∧ (∀ z, z ≠ x1 → z ≠ x2 → m' z = m z) ∧ (n - 1) + i = prs.length + 1 ∧ i ≤ prs.length ∧ ∀ j p, j < i → prs[j]? = some p → miss p) := by
      rintro ⟨h', tk2, m6, n6, e, F6, N6, K6, hm6, hmp⟩
      exact ⟨i + 1, h', tk2, m6, e, ⟨oI, (N6 _ (K6 _ (.head _))).1, hI2, hI3⟩, F6, fun z hz => N6 z (K6 z (.tail _ hz)), hm6, by omega, by omega, fun j p' hj hp' => (Nat.lt_succ_iff_lt_or_eq.mp hj).elim (fun q => hmi j p' q hp') fun q => by subst q; rw [hp] at hp'; cases hp'; exact hmp⟩
    cases f with
    | brk => exact q
    | ret v => exact q
    | next => exact ⟨n - 1, by omega, fin q⟩
    | cont => exact ⟨n - 1, by omega, fin q⟩
end
end
section
theorem off_Os : True := by
  w_top off
  exact True.intro
local macro_rules | `(tactic| walk_at "off 0") => `(tactic| fail)
local macro_rules | `(tactic| walk_at "off 1") => `(tactic| fail)
local macro_rules | `(tactic| walk_at "off 2") => `(tactic| fail)
theorem unr_Os {a b : Nat} (h : a < b) : a < b := h
local macro_rules | `(tactic| k_room) => `(tactic| ((try simp only [depth_under_make, depth_under_kw, depth_in1, depth_deeper, depth_caller]); (try dsimp only [ktrTop]); (try simp only [recursionLimit]); omega))
local macro_rules | `(tactic| k_units) => `(tactic| ((try simp only [units_in1, units_deeper, Around.mark_units, units_caller]); (try dsimp only [ktrTop]); (try simp only [cLine]); omega))
local macro_rules | `(tactic| k_enter) => `(tactic| (refine' code_def ?k1 ?k2 ?k3 ?k4 ?k5 ?kA ?kF ?kK ?k6 ?k7 ?k8 ?k9 ?kB ?_ ?c2 ?c3 ?c4 ?c5; (case kA => exact rfl); (case kF => exact rfl); (case kK => first | assumption | exact rfl); (case k1 => k_asm); (case k2 => k_asm); (case k3 => k_asm); (case k4 => k_asm); (case k5 => k_asm); (case k6 => k_is); (case k7 => k_is); (case k8 => k_room); (case k9 => first | exact BindsTo.of_eq rfl | exact binds_K (by k_in) rfl (by k_is) rfl rfl rfl | fail "k_enter: no rule for these arguments"); (case c5 => decide); (case kB => exact locs rfl); (case c2 => exact rfl); (case c3 => exact rfl); (case c4 => exact rfl); k_whole; intro g' L' h' FG' F' N' B' X' T'; (try dsimp only); (try k_lift B'); (try k_fold)))
local macro_rules | `(tactic| k_all) => `(tactic| (refine ne_of_below (by assumption) ?_; first | exact Nat.le_refl _ | omega))
local macro_rules | `(tactic| k_mem) => `(tactic| first | exact List.Mem.head _ | (refine List.Mem.tail _ ?_; k_mem) | assumption)
section
variable {w : World} {A : Around} {E : Value → Shared → Prop} {s : Shared} {h₀ : Heap} {L : Addr} {m : Str → Option Value} {news n₀ : Led} {G : Gram} {x : Addr} {prs : Prs}
theorem plain_inst {h : Heap} {C dx : Addr} {od : Obj} {sl : Array (Option Value)} (N : News h₀ L h news) (h1 : (x, (⟨.ref C, some dx, .plain, sl⟩ : Obj)) ∈ news) (h2 : (dx, od) ∈ news) :
    InstAt h x ⟨.ref C, some dx, .plain, sl⟩ C (some od) := ⟨(N _ h1).1, rfl, rfl, (N _ h2).1⟩
theorem oids_put (H : _) (hs : _) (tk tk' : Tok) (v v' : Value) (n : Nat) : (putL (Str.ofString "oids") H (.str (Str.ofString "oids") tk') v' [⟨hs, .str (Str.ofString "oids") tk, v⟩], putN (Str.ofString "oids") [⟨hs, .str (Str.ofString "oids") tk, v⟩] n) = ([⟨hs, .str (Str.ofString "oids") tk, v'⟩], n) := by rfl
local macro_rules | `(tactic| walk_at "my set") => `(tactic| (k_dflt (refine' set_dict ?F ?X ?N ?I ?hd ?hs ?hp ?ht ?hh ?hl ?e ?U ?hz ?_; (case I => (refine' plain_inst ?N2 ?h1 ?h2; (case N2 => assumption); (case h1 => assumption); (case h2 => assumption))); (case F => assumption); (case X => assumption); (case hd => exact rfl); (case N => (refine' focus ?N3 ?h3; (case N3 => assumption); (case h3 => assumption))); (case hs => k_is); (case hp => k_is); (case ht => k_is); (case hh => k_is); (case hl => k_get); (case e => exact rfl); (case U => exact Upd.head off_filter); (case hz => exact Nat.le_of_ble_eq_true rfl))))
local macro_rules | `(tactic| walk_at "my set2") => `(tactic| (k_dflt (refine' set_dict ?F ?X ?N ?I ?hd ?hs ?hp ?ht ?hh ?hl ?e ?U ?hz ?_; (case I => (refine' plain_inst ?N2 ?h1 ?h2; (case N2 => assumption); (case h1 => assumption); (case h2 => assumption))); (case F => assumption); (case X => assumption); (case hd => exact rfl); (case N => (refine' focus ?N3 ?h3; (case N3 => assumption); (case h3 => assumption))); (case hs => k_is); (case hp => k_is); (case ht => k_is); (case hh => k_is); (case hl => k_get); (case e => exact oids_put _ _ _ _ _ _ _); (case U => exact Upd.head off_filter); (case hz => exact Nat.le_of_ble_eq_true rfl))))
theorem oids_set {t' : Addr} {Q : Unit → Shared → Prop} (X : (hd.heap_39 w.params).In h₀) (F : Fr h₀ L s.heap m) (N : News h₀ L s.heap news) (hE : ExprAt G news x) (hO : OidsAt news (G.dx x) prs)
    (h : ∀ h' hs tk n n', Fr h₀ L h' m → News h₀ L h' n' → (G.dx x, dictOf [⟨hs, .str (Str.ofString "oids") tk, .ref t'⟩] n) ∈ n' → (∀ z ∈ news, z.1 ≠ G.dx x → z ∈ n') → Q () { s with heap := h', toks := s.toks + 2 }) :
    wpAny (model PySem.Challenge.rw_vj0022_01.row.prog w) A (setAttr (.ref x) (Str.ofString "oids") (.ref t')) Q E s := by
  revert X; k_fill; intro X
  unfold ExprAt at hE
  split at hE
  · obtain ⟨tw, nm, nt, idt, hE⟩ := hE
    rcases hO with ⟨-, n, hO⟩ | ⟨hs, tk, t, k, n, hO, -, -⟩ 
    · walk_at "my set"
      exact fun h' F' N' => h h' _ _ _ _ F' N' (.head _) in_filter
    · walk_at "my set2"
      exact fun h' F' N' => h h' _ _ _ _ F' N' (.head _) in_filter
  · obtain ⟨t, k, nm, nt, idt, hE, -⟩ := hE
    rcases hO with ⟨-, n, hO⟩ | ⟨hs, tk, t, k, n, hO, -, -⟩ 
    · walk_at "my set"
      exact fun h' F' N' => h h' _ _ _ _ F' N' (.head _) in_filter
    · walk_at "my set2"
      exact fun h' F' N' => h h' _ _ _ _ F' N' (.head _) in_filter
  · obtain ⟨t, k, nm, nt, idt, hE, -⟩ := hE
    rcases hO with ⟨-, n, hO⟩ | ⟨hs, tk, t, k, n, hO, -, -⟩ 
    · walk_at "my set"
      exact fun h' F' N' => h h' _ _ _ _ F' N' (.head _) in_filter
    · walk_at "my set2"
      exact fun h' F' N' => h h' _ _ _ _ F' N' (.head _) in_filter
  · obtain ⟨t, k, nm, nt, idt, hE, -⟩ := hE
    rcases hO with ⟨-, n, hO⟩ | ⟨hs, tk, t, k, n, hO, -, -⟩ 
    · walk_at "my set"
      exact fun h' F' N' => h h' _ _ _ _ F' N' (.head _) in_filter
    · walk_at "my set2"
      exact fun h' F' N' => h h' _ _ _ _ F' N' (.head _) in_filter
/-- a tuple before a tuple of rows -/
theorem add_row {T t k k' : Addr} {v : Value} {ws : List Value} {Q : Value → Shared → Prop} {prog : Program} (F : Fr h₀ L s.heap m) (N : News h₀ L s.heap news) (h1 : (T, tupO [v] k) ∈ news) (h2 : (t, tupO ws k') ∈ news) (hz : ws.length ≤ 1000)
    (h : ∀ D k h' n', Fr h₀ L h' m → News h₀ L h' n' → (∀ z ∈ news, z ∈ n') → (D, tupO (v :: ws) k) ∈ n' → Q (.ref D) { s with heap := h' }) : wpAny (model prog w) A (binaryOp .Add (.ref T) (.ref t)) Q E s := by
  have ht : IsTup s.heap T [v].toArray := ⟨_, (N _ h1).1, rfl, _, rfl⟩
  have hb : IsTup s.heap t ws.toArray := ⟨_, (N _ h2).1, rfl, _, rfl⟩
  refine add_tuples F N ht hb (fun e => nomatch e) (fun _ e => ?_) (fun _ _ h' F' N' => h _ _ h' _ F' N' (fun z hz => .tail _ hz) (.head _)) (by rw [sizeLine_eq, List.length_singleton]; omega)
  subst e
  exact h T _ s.heap news F N (fun _ z => z) h1
end
end
section
theorem off_Rw : True := by
  w_top off
  exact True.intro
theorem unr_Rw {a b : Nat} (h : a < b) : a < b := h
local macro_rules | `(tactic| k_room) => `(tactic| ((try simp only [depth_under_make, depth_under_kw, depth_in1, depth_deeper, depth_caller]); (try dsimp only [ktrTop]); (try simp only [recursionLimit]); omega))
local macro_rules | `(tactic| k_units) => `(tactic| ((try simp only [units_in1, units_deeper, Around.mark_units, units_caller]); (try dsimp only [ktrTop]); (try simp only [cLine]); omega))
local macro_rules | `(tactic| k_enter) => `(tactic| (refine' code_def ?k1 ?k2 ?k3 ?k4 ?k5 ?kA ?kF ?kK ?k6 ?k7 ?k8 ?k9 ?kB ?_ ?c2 ?c3 ?c4 ?c5; (case kA => exact rfl); (case kF => exact rfl); (case kK => first | assumption | exact rfl); (case k1 => k_asm); (case k2 => k_asm); (case k3 => k_asm); (case k4 => k_asm); (case k5 => k_asm); (case k6 => k_is); (case k7 => k_is); (case k8 => k_room); (case k9 => first | exact BindsTo.of_eq rfl | exact binds_K (by k_in) rfl (by k_is) rfl rfl rfl | fail "k_enter: no rule for these arguments"); (case c5 => decide); (case kB => exact locs rfl); (case c2 => exact rfl); (case c3 => exact rfl); (case c4 => exact rfl); k_whole; intro g' L' h' FG' F' N' B' X' T'; (try dsimp only); (try k_lift B'); (try k_fold)))
local macro_rules | `(tactic| k_all) => `(tactic| (refine ne_of_below (by assumption) ?_; first | exact Nat.le_refl _ | omega))
local macro_rules | `(tactic| k_mem) => `(tactic| first | exact List.Mem.head _ | (refine List.Mem.tail _ ?_; k_mem) | assumption)
theorem nodup_le : ∀ (T : Nat) (l : List Nat), l.Nodup → (∀ x ∈ l, x < T) → l.length ≤ T
  | 0, [], _, _ => Nat.le_refl _
  | 0, a :: _, _, h => absurd (h a (.head _)) (Nat.not_lt_zero _)
  | T + 1, l, hn, h => by
    have ih := nodup_le T (l.erase T) (hn.erase T) fun x hx => by
      have h1 := (hn.mem_erase_iff).mp hx
      have h2 := h x h1.2
      have h3 := h1.1
      omega
    by_cases e : T ∈ l
    · rw [List.length_erase_of_mem e] at ih
      omega
    · rw [List.erase_of_not_mem e] at ih
      omega
theorem row_len {T : Nat} {kvs : List (Int × Value)} (hn : (kvs.map (·.1)).Nodup) (h : ∀ kv ∈ kvs, ∃ p : Nat, kv.1 = (p : Int) ∧ p ≤ T) : kvs.length ≤ T + 1 := by
  have h1 := nodup_le (T + 1) (kvs.map fun kv => kv.1.toNat) ?_ ?_
  · rwa [List.length_map] at h1
  · have h2 : (kvs.map fun kv => kv.1.toNat) = (kvs.map (·.1)).map Int.toNat := by rw [List.map_map]; rfl
    rw [h2, List.nodup_iff_pairwise_ne, List.pairwise_map]
    refine List.Pairwise.imp_of_mem (fun {a b} ha hb hab e => hab ?_) hn
    obtain ⟨ka, ha1, ha2⟩ := List.mem_map.mp ha
    obtain ⟨kb, hb1, hb2⟩ := List.mem_map.mp hb
    obtain ⟨p, hp, _⟩ := h ka ha1
    obtain ⟨q, hq, _⟩ := h kb hb1
    omega
  · intro x hx
    obtain ⟨kv, h2, rfl⟩ := List.mem_map.mp hx
    obtain ⟨p, hp, hq⟩ := h kv h2
    omega
theorem dict_nodup {w : World} {o : Obj} {kvs : List (Int × Value)} (h : o.IsDictOf (intKind theProg w) kvs) : (kvs.map (·.1)).Nodup := by
  obtain ⟨_, _, _, _, _, _, h⟩ := h
  exact h
theorem stored_mem {kvs : List (Int × Value)} {k : Int} {v : Value} {kv : Int × Value} (h : kv ∈ stored kvs k v) : kv = (k, v) ∨ (kv ∈ kvs ∧ kv.1 ≠ k) := by
  unfold stored at h
  split at h
  · obtain ⟨a, h1, h2⟩ := List.mem_map.mp h
    split at h2
    · rename_i e; exact .inl (by rw [← h2, e])
    · rename_i e; exact .inr (by rw [← h2]; exact ⟨h1, e⟩)
  · rename_i hn
    rcases List.mem_append.mp h with h | h
    · by_cases e : kv.1 = k
      · exact absurd (List.any_eq_true.mpr ⟨kv, h, by simpa using e⟩) hn
      · exact .inr ⟨h, e⟩
    · exact .inl (List.mem_singleton.mp h)
theorem valueAt_mem {kvs : List (Int × Value)} {k : Int} {v : Value} (h : valueAt kvs k = some v) : (k, v) ∈ kvs := by
  unfold valueAt at h
  cases e : kvs.find? (fun kv => kv.1 = k) with
  | none => rw [e] at h; cases h
  | some kv =>
    rw [e] at h
    have h1 := List.mem_of_find?_eq_some e
    have h2 := List.find?_some e
    have h3 : kv.1 = k := by simpa using h2
    have h4 : kv.2 = v := by simpa using h
    rw [← h3, ← h4]
    exact h1
end
section
theorem off_Eg : True := by
  w_top off
  exact True.intro
theorem unr_Eg {a b : Nat} (h : a < b) : a < b := h
local macro_rules | `(tactic| k_room) => `(tactic| ((try simp only [depth_under_make, depth_under_kw, depth_in1, depth_deeper, depth_caller]); (try dsimp only [ktrTop]); (try simp only [recursionLimit]); omega))
local macro_rules | `(tactic| k_units) => `(tactic| ((try simp only [units_in1, units_deeper, Around.mark_units, units_caller]); (try dsimp only [ktrTop]); (try simp only [cLine]); omega))
local macro_rules | `(tactic| k_enter) => `(tactic| (refine' code_def ?k1 ?k2 ?k3 ?k4 ?k5 ?kA ?kF ?kK ?k6 ?k7 ?k8 ?k9 ?kB ?_ ?c2 ?c3 ?c4 ?c5; (case kA => exact rfl); (case kF => exact rfl); (case kK => first | assumption | exact rfl); (case k1 => k_asm); (case k2 => k_asm); (case k3 => k_asm); (case k4 => k_asm); (case k5 => k_asm); (case k6 => k_is); (case k7 => k_is); (case k8 => k_room); (case k9 => first | exact BindsTo.of_eq rfl | exact binds_K (by k_in) rfl (by k_is) rfl rfl rfl | fail "k_enter: no rule for these arguments"); (case c5 => decide); (case kB => exact locs rfl); (case c2 => exact rfl); (case c3 => exact rfl); (case c4 => exact rfl); k_whole; intro g' L' h' FG' F' N' B' X' T'; (try dsimp only); (try k_lift B'); (try k_fold)))
local macro_rules | `(tactic| k_all) => `(tactic| (refine ne_of_below (by assumption) ?_; first | exact Nat.le_refl _ | omega))
local macro_rules | `(tactic| k_mem) => `(tactic| first | exact List.Mem.head _ | (refine List.Mem.tail _ ?_; k_mem) | assumption)
section
variable {w : World} {A : Around} {E : Value → Shared → Prop} {s : Shared} {h₀ : Heap} {L : Addr} {m : Str → Option Value} {news : Led} {e de : Addr} {args : Addr} {text : Str} {tt tp k1 k2 k3 : Tok} {pos : Int} {ex : Value} {h1 h2 h3 : Int} {n : Nat}
abbrev errO (args de : Addr) : Obj := { cls := .ref 87, dict := some de, data := .fields #[.ref args, .none, .none, .none, .bool false, .none] }
abbrev errD (h1 h2 h3 : Int) (k1 k2 k3 : Tok) (text : Str) (tt : Tok) (pos : Int) (tp : Tok) (ex : Value) (n : Nat) : Obj :=
  dictOf [⟨h1, .str (Str.ofString "text") k1, .str text tt⟩, ⟨h2, .str (Str.ofString "pos") k2, .int pos tp⟩, ⟨h3, .str (Str.ofString "expr") k3, ex⟩] n
local macro_rules | `(tactic| walk_at "my get") => `(tactic| (k_dflt (refine' EX.exc_get ?F ?X (exc_inst ?N ?h1 ?h2) ?hga ?hgt ?hb ?hf ?hh ?_; (case N => assumption); (case h1 => assumption); (case h2 => assumption); (case F => assumption); (case X => assumption); (case hga => k_is); (case hgt => k_is); (case hb => k_is); (case hf => (refine' findObj_own ?a ?b ?c ?d; (case a => k_is); (case b => k_is); (case c => rfl); (case d => (rw [lookIn_dict]; rfl)))); (case hh => first | rfl | assumption))))
theorem err_pos {ep : Bool} {Q : Value → Shared → Prop} (X : (hd.heap_39 w.params).In h₀) (F : Fr h₀ L s.heap m) (N : News h₀ L s.heap news) (a : (e, errO args de) ∈ news) (b : (de, errD h1 h2 h3 k1 k2 k3 text tt pos tp ex n) ∈ news)
    (h : Q (.int pos tp) { s with toks := s.toks + 1 }) : wpAny (model PySem.Challenge.rw_vj0022_01.row.prog w) A (getAttr (.ref e) (Str.ofString "pos") ep) Q E s := by
  revert X; k_fill; intro X
  walk_at "my get"
  exact h
theorem err_expr {ep : Bool} {Q : Value → Shared → Prop} (X : (hd.heap_39 w.params).In h₀) (F : Fr h₀ L s.heap m) (N : News h₀ L s.heap news) (a : (e, errO args de) ∈ news) (b : (de, errD h1 h2 h3 k1 k2 k3 text tt pos tp ex n) ∈ news) (hx : handedIn ex = true)
    (h : Q ex { s with toks := s.toks + 1 }) : wpAny (model PySem.Challenge.rw_vj0022_01.row.prog w) A (getAttr (.ref e) (Str.ofString "expr") ep) Q E s := by
  revert X; k_fill; intro X
  walk_at "my get"
  exact h
theorem err_ne {h : Heap} (N : News h₀ L h news) (a : (e, errO args de) ∈ news) (b : (de, errD h1 h2 h3 k1 k2 k3 text tt pos tp ex n) ∈ news) : e ≠ de := fun q => by
  subst q
  have := sameAddr N a b
  cases congrArg Obj.cls this
theorem put_expr (H : Int) (K v : Value) (h1 h2 h3 : Int) (k1 k2 k3 : Tok) (a b ex : Value) (n : Nat) :
    (putL (Str.ofString "expr") H K v [⟨h1, .str (Str.ofString "text") k1, a⟩, ⟨h2, .str (Str.ofString "pos") k2, b⟩, ⟨h3, .str (Str.ofString "expr") k3, ex⟩], putN (Str.ofString "expr") [⟨h1, .str (Str.ofString "text") k1, a⟩, ⟨h2, .str (Str.ofString "pos") k2, b⟩, ⟨h3, .str (Str.ofString "expr") k3, ex⟩] n) =
    ([⟨h1, .str (Str.ofString "text") k1, a⟩, ⟨h2, .str (Str.ofString "pos") k2, b⟩, ⟨h3, .str (Str.ofString "expr") k3, v⟩], n) := by rfl
theorem put_pos (H : Int) (K v : Value) (h1 h2 h3 : Int) (k1 k2 k3 : Tok) (a b ex : Value) (n : Nat) :
    (putL (Str.ofString "pos") H K v [⟨h1, .str (Str.ofString "text") k1, a⟩, ⟨h2, .str (Str.ofString "pos") k2, b⟩, ⟨h3, .str (Str.ofString "expr") k3, ex⟩], putN (Str.ofString "pos") [⟨h1, .str (Str.ofString "text") k1, a⟩, ⟨h2, .str (Str.ofString "pos") k2, b⟩, ⟨h3, .str (Str.ofString "expr") k3, ex⟩] n) =
    ([⟨h1, .str (Str.ofString "text") k1, a⟩, ⟨h2, .str (Str.ofString "pos") k2, v⟩, ⟨h3, .str (Str.ofString "expr") k3, ex⟩], n) := by rfl
theorem err_set_expr {v : Value} {Q : Unit → Shared → Prop} (X : (hd.heap_39 w.params).In h₀) (F : Fr h₀ L s.heap m) (N : News h₀ L s.heap news) (a : (e, errO args de) ∈ news) (b : (de, errD h1 h2 h3 k1 k2 k3 text tt pos tp ex n) ∈ news)
    (h : ∀ h' n', Fr h₀ L h' m → News h₀ L h' n' → (e, errO args de) ∈ n' → (de, errD h1 h2 h3 k1 k2 k3 text tt pos tp v n) ∈ n' → (∀ z ∈ news, z.1 ≠ de → z ∈ n') → Q () { s with heap := h', toks := s.toks + 2 }) : wpAny (model PySem.Challenge.rw_vj0022_01.row.prog w) A (setAttr (.ref e) (Str.ofString "expr") v) Q E s := by
  revert X; k_fill; intro X
  have hne := err_ne N a b
  k_dflt (refine' EX.exc_set (pre := []) F X (focus N b) (exc_inst N a b) rfl ?hs ?hc ?hm2 ?hh ?ha rfl (put_expr _ _ _ _ _ _ _ _ _ _ _ _ _) (fun _ h => nomatch h) off_filter (Nat.le_of_ble_eq_true rfl) fun h' F' N' => h h' _ F' N' (in_filter _ a hne) (.head _) in_filter; (case hs => k_is); (case hc => k_is); (case hm2 => rfl); (case hh => rfl); (case ha => k_is))
theorem err_set_pos {v : Int} {t : Tok} {Q : Unit → Shared → Prop} (X : (hd.heap_39 w.params).In h₀) (F : Fr h₀ L s.heap m) (N : News h₀ L s.heap news) (a : (e, errO args de) ∈ news) (b : (de, errD h1 h2 h3 k1 k2 k3 text tt pos tp ex n) ∈ news)
    (h : ∀ h' n', Fr h₀ L h' m → News h₀ L h' n' → (e, errO args de) ∈ n' → (de, errD h1 h2 h3 k1 k2 k3 text tt v t ex n) ∈ n' → (∀ z ∈ news, z.1 ≠ de → z ∈ n') → Q () { s with heap := h', toks := s.toks + 2 }) : wpAny (model PySem.Challenge.rw_vj0022_01.row.prog w) A (setAttr (.ref e) (Str.ofString "pos") (.int v t)) Q E s := by
  revert X; k_fill; intro X
  have hne := err_ne N a b
  k_dflt (refine' EX.exc_set (pre := []) F X (focus N b) (exc_inst N a b) rfl ?hs ?hc ?hm2 ?hh ?ha rfl (put_pos _ _ _ _ _ _ _ _ _ _ _ _ _) (fun _ h => nomatch h) off_filter (Nat.le_of_ble_eq_true rfl) fun h' F' N' => h h' _ F' N' (in_filter _ a hne) (.head _) in_filter; (case hs => k_is); (case hc => k_is); (case hm2 => rfl); (case hh => rfl); (case ha => k_is))
end
end
section
theorem off_Rz : True := by
  w_top off
  exact True.intro
theorem unr_Rz {a b : Nat} (h : a < b) : a < b := h
local macro_rules | `(tactic| k_room) => `(tactic| ((try simp only [depth_under_make, depth_under_kw, depth_in1, depth_deeper, depth_caller]); (try dsimp only [ktrTop]); (try simp only [recursionLimit]); omega))
local macro_rules | `(tactic| k_units) => `(tactic| ((try simp only [units_in1, units_deeper, Around.mark_units, units_caller]); (try dsimp only [ktrTop]); (try simp only [cLine]); omega))
local macro_rules | `(tactic| k_enter) => `(tactic| (refine' code_def ?k1 ?k2 ?k3 ?k4 ?k5 ?kA ?kF ?kK ?k6 ?k7 ?k8 ?k9 ?kB ?_ ?c2 ?c3 ?c4 ?c5; (case kA => exact rfl); (case kF => exact rfl); (case kK => first | assumption | exact rfl); (case k1 => k_asm); (case k2 => k_asm); (case k3 => k_asm); (case k4 => k_asm); (case k5 => k_asm); (case k6 => k_is); (case k7 => k_is); (case k8 => k_room); (case k9 => first | exact BindsTo.of_eq rfl | exact binds_K (by k_in) rfl (by k_is) rfl rfl rfl | fail "k_enter: no rule for these arguments"); (case c5 => decide); (case kB => exact locs rfl); (case c2 => exact rfl); (case c3 => exact rfl); (case c4 => exact rfl); k_whole; intro g' L' h' FG' F' N' B' X' T'; (try dsimp only); (try k_lift B'); (try k_fold)))
local macro_rules | `(tactic| k_all) => `(tactic| (refine ne_of_below (by assumption) ?_; first | exact Nat.le_refl _ | omega))
local macro_rules | `(tactic| k_mem) => `(tactic| first | exact List.Mem.head _ | (refine List.Mem.tail _ ?_; k_mem) | assumption)
section
variable {prog : Program} {w : World} {A : Around} {E : Value → Shared → Prop} {s : Shared} {env : Env} {h₀ : Heap} {L : Addr} {m : Str → Option Value} {news : Led}
abbrev exO (C args : Addr) (dd : Option Addr) : Obj := { cls := .ref C, dict := dd, data := .fields #[.ref args, .none, .none, .none, .bool false, .none] }
theorem raise_obj {nm q : Str} {C N : Addr} {bs bm : List Value} {hdct : Bool} {sn : List Str} {sub : List Value} {ab : Bool} {col : Option Bool} {dd : Option Addr} {k0 k1 k2 k3 k5 : Option Value} {newId : String} {y : Sem Value} {Q : Flow → Shared → Prop} (hbase : bm.contains (.type "BaseException") = true) (hh : A.handled = none)
    (h : wpAny (model prog w) A y (fun v s₁ => ∃ e t od, v = .ref e ∧ s₁.heap.get? C = some (excClassObj nm q C N bs bm hdct sn sub ab col dd k0 k1 k2 k3 k5 newId) ∧
      s₁.heap.get? e = some (exO C t od) ∧ E (.ref e) s₁) E s) :
    wpAny (model prog w) A (raiseStmt env (some y) none) Q E s := by
  have hcB : (Value.ref C :: bm).contains (.type "BaseException") = true := by rw [List.contains_cons, hbase, Bool.or_true]
  unfold raiseStmt
  refine wpAny_bind (wpAny_mono h (fun v s₁ h₁ => ?_) fun _ _ x => x)
  obtain ⟨e, t, od, rfl, hC, he, hE⟩ := h₁
  obtain ⟨hp, g, d, tk, os⟩ := s₁
  repeat (first | with_reducible refine wpAny_loadPart_at he ?_ | with_reducible refine wpAny_loadPart_at hC ?_ | (with_reducible refine wpAny_isSubtype_exc hC ?_; rw [hcB]) | wp_step)
  exact wpAny_raiseNew_none hh hE
theorem raise_pe {y : Sem Value} {Q : Flow → Shared → Prop} (hh : A.handled = none)
    (h : wpAny (model prog w) A y (fun v s₁ => ∃ e t od, v = .ref e ∧ s₁.heap.get? 87 = some pe87 ∧ s₁.heap.get? e = some (exO 87 t od) ∧ E (.ref e) s₁) E s) : wpAny (model prog w) A (raiseStmt env (some y) none) Q E s :=
  raise_obj (by decide) hh h
theorem raise_name {x : Str} {np pos : Pos} {e args de : Addr} {Q : Flow → Shared → Prop} (hh : A.handled = none) (X : (hd.heap_39 w.params).In s.heap) (he : s.heap.get? e = some (exO 87 args (some de)))
    (h : wpAny (model theProg w) A (eval (.Name x np) env) (fun v s₁ => v = .ref e ∧ s₁.heap = s.heap ∧ E (.ref e) s₁) E s) : wpAny (model theProg w) A (exec (.Raise (some (.Name x np)) none pos) env) Q E s := by
  rw [arm_exec_Raise]
  have hC := pe_lookup X
  refine wpAny_bind (wpAny_standAt ?_)
  refine raise_pe hh (wpAny_bind (wpAny_mono h (fun v s₁ h₁ => wpAny_bind (wpAny_standAt (wpAny_pure ?_))) fun _ _ x => x))
  obtain ⟨rfl, e1, h2⟩ := h₁
  exact ⟨e, args, _, rfl, by rw [e1]; exact hC, by rw [e1]; exact he, h2⟩
theorem raise_call {f : Expr} {as : List Expr} {ks : List Keyword} {np pos : Pos} {C : Addr} {nm q : Str} {N : Addr} {bs bm : List Value} {hdct : Bool} {sn : List Str} {sub : List Value} {ab : Bool} {col : Option Bool} {dd : Option Addr} {k0 k1 k2 k3 k5 : Option Value} {newId : String} {Q : Flow → Shared → Prop} (hbase : bm.contains (.type "BaseException") = true) (hh : A.handled = none)
    (h : wpAny (model prog w) A (eval (.Call f as ks np) env) (fun v s₁ => ∃ e t od, v = .ref e ∧ s₁.heap.get? C = some (excClassObj nm q C N bs bm hdct sn sub ab col dd k0 k1 k2 k3 k5 newId) ∧ s₁.heap.get? e = some (exO C t od) ∧ E (.ref e) s₁) E s) :
    wpAny (model prog w) A (exec (.Raise (some (.Call f as ks np)) none pos) env) Q E s := by
  rw [arm_exec_Raise]
  refine wpAny_bind (wpAny_standAt ?_)
  refine raise_obj (nm := nm) (q := q) (C := C) (N := N) (bs := bs) (bm := bm) (hdct := hdct) (sn := sn) (sub := sub) (ab := ab) (col := col) (dd := dd) (k0 := k0) (k1 := k1) (k2 := k2) (k3 := k3) (k5 := k5) (newId := newId) hbase hh (wpAny_bind (wpAny_mono h (fun v s₁ h₁ => wpAny_bind (wpAny_standAt (wpAny_pure ?_))) fun _ _ x => x))
  exact h₁
end
end
section
theorem off_Rx : True := by
  w_top off
  exact True.intro
theorem unr_Rx {a b : Nat} (h : a < b) : a < b := h
local macro_rules | `(tactic| k_room) => `(tactic| ((try simp only [depth_under_make, depth_under_kw, depth_in1, depth_deeper, depth_caller]); (try dsimp only [ktrTop]); (try simp only [recursionLimit]); omega))
local macro_rules | `(tactic| k_units) => `(tactic| ((try simp only [units_in1, units_deeper, Around.mark_units, units_caller]); (try dsimp only [ktrTop]); (try simp only [cLine]); omega))
local macro_rules | `(tactic| k_enter) => `(tactic| (refine' code_def ?k1 ?k2 ?k3 ?k4 ?k5 ?kA ?kF ?kK ?k6 ?k7 ?k8 ?k9 ?kB ?_ ?c2 ?c3 ?c4 ?c5; (case kA => exact rfl); (case kF => exact rfl); (case kK => first | assumption | exact rfl); (case k1 => k_asm); (case k2 => k_asm); (case k3 => k_asm); (case k4 => k_asm); (case k5 => k_asm); (case k6 => k_is); (case k7 => k_is); (case k8 => k_room); (case k9 => first | exact BindsTo.of_eq rfl | exact binds_K (by k_in) rfl (by k_is) rfl rfl rfl | fail "k_enter: no rule for these arguments"); (case c5 => decide); (case kB => exact locs rfl); (case c2 => exact rfl); (case c3 => exact rfl); (case c4 => exact rfl); k_whole; intro g' L' h' FG' F' N' B' X' T'; (try dsimp only); (try k_lift B'); (try k_fold)))
local macro_rules | `(tactic| k_all) => `(tactic| (refine ne_of_below (by assumption) ?_; first | exact Nat.le_refl _ | omega))
local macro_rules | `(tactic| k_mem) => `(tactic| first | exact List.Mem.head _ | (refine List.Mem.tail _ ?_; k_mem) | assumption)
section
variable {M : Model} {A : Around} {E : Value → Shared → Prop} {s' : Shared} {base g : Heap} {outer : List Env} {L a e t C : Addr} {od : Option Addr} {m : Str → Option Value} {name : Str} {scope : Scope} {cd : Value} {Q : Unit → Shared → Prop} {news news' : Led} {vs : List Value} {k : Nat}
theorem leave_peS (K : Below A base outer g) (F : Fr g L s'.heap m) (N : News g L s'.heap news) (he : (e, exO C t od) ∈ news) (ht : (t, tupO vs k) ∈ news) (hn : ∀ q ∈ news', q ∈ news ∧ q.1 ≠ e ∧ q.1 ≠ t)
    (hQ : ∀ h', RaisedS base g outer e (.ref C) t vs news' h' → g.UpToSlots h' → Q () { s' with heap := h' }) (hk : scope.kind = .function := by rfl) :
    wpAny M (A.deeper (envOf name scope L a cd)) (leaving (envOf name scope L a cd) (.ref e)) Q E s' := by
  have K' := K.push (name := name) (a := a) (cd := cd) F hk
  have hin : ∀ env ∈ (envOf name scope L a cd :: outer), ∀ b, env.frame = some b → b ∈ ((envOf name scope L a cd :: outer).filterMap (·.frame) ++ [e, t]) := fun env he b hb => List.mem_append_left _ (List.mem_filterMap.mpr ⟨env, he, hb⟩)
  have fr : ∀ q ∈ news, base.get? q.1 = none := fun q hq => fresh_of_stays K.stays (N q hq).2.2
  have offF : ∀ q ∈ news, q.1 ∉ (envOf name scope L a cd :: outer).filterMap (·.frame) := fun q hq hm => by
    obtain ⟨env, he, hf⟩ := List.mem_filterMap.mp hm
    rcases List.mem_cons.mp he with rfl | he
    · exact (N q hq).2.1 (Option.some.inj hf).symm
    · obtain ⟨o, ho, _⟩ := (K.frames.mem (List.mem_filterMap.mpr ⟨env, he, hf⟩)).2
      rw [(N q hq).2.2] at ho; cases ho
  have st : base.StaysIn (hideAll s'.heap ((envOf name scope L a cd :: outer).filterMap (·.frame) ++ [e, t])) := fun b o q => hideAll_get _ (K'.stays b o q) fun hm => by
    rcases List.mem_append.mp hm with hm | hm
    · rw [(K'.frames.mem hm).1] at q; cases q
    · rcases List.mem_cons.mp hm with rfl | hm
      · rw [fr _ he] at q; cases q
      · rw [List.mem_singleton.mp hm, fr _ ht] at q; cases q
  have sg : ∀ b o, g.get? b = some o → b ∉ outer.filterMap (·.frame) → (hideAll s'.heap ((envOf name scope L a cd :: outer).filterMap (·.frame) ++ [e, t])).get? b = some o := fun b o q nm => hideAll_get _ (F.keep b o q) fun hm => by
    rcases List.mem_append.mp hm with hm | hm
    · rcases kts_mem hm with z | z
      · rw [z, kts_self F] at q; cases q
      · exact nm z
    · rcases List.mem_cons.mp hm with rfl | hm
      · rw [(N _ he).2.2] at q; cases q
      · rw [List.mem_singleton.mp hm, (N _ ht).2.2] at q; cases q
  have hl : ∀ q ∈ news', (hideAll s'.heap ((envOf name scope L a cd :: outer).filterMap (·.frame) ++ [e, t])).get? q.1 = some q.2 ∧ g.get? q.1 = none ∧ base.get? q.1 = none := fun q hq => by
    obtain ⟨h1, h2, h3⟩ := hn q hq
    refine ⟨hideAll_get _ (N q h1).1 fun hm => ?_, (N q h1).2.2, fr q h1⟩
    rcases List.mem_append.mp hm with hm | hm
    · exact offF q h1 hm
    · rcases List.mem_cons.mp hm with e1 | hm
      · exact h2 e1
      · exact h3 (List.mem_singleton.mp hm)
  have ne : (hideAll s'.heap ((envOf name scope L a cd :: outer).filterMap (·.frame) ++ [e, t])).get? e = none := hideAll_none _ (List.mem_append_right _ (.head _))
  have nt : (hideAll s'.heap ((envOf name scope L a cd :: outer).filterMap (·.frame) ++ [e, t])).get? t = none := hideAll_none _ (List.mem_append_right _ (.tail _ (.head _)))
  refine wpAny_leaving_firstW (a0 := .ref t) K'.stack (funFrames_hide K'.frames hin) rfl (N _ he).1 (fun b o q => of_hideAll _ q) ne rfl rfl rfl fun h' hL => ?_
  obtain ⟨k1, ⟨_, _, k2⟩, k3, k4⟩ := hL
  exact hQ h' ⟨⟨_, st, sg, hl, ⟨k1, ne, k2, k3⟩, nt⟩, Heap.TupAt.of_slots ⟨_, _, (N _ ht).1, rfl, rfl⟩ k4⟩ ((Heap.UpToSlots.of_keeps F.keep).trans k4)
end
section
variable {w : World} {A₀ : Around} {E : Value → Shared → Prop} {s' : Shared} {h₀ h : Heap} {outer : List Env} {L a e t : Addr} {m : Str → Option Value} {name : Str} {scope : Scope} {cd : Value}
  {vs : List Value} {b₀ : Stmt} {suite : List Stmt} {pos np : Pos} {rest : List ExceptHandler} {Q : Flow → Shared → Prop} {news : List (Addr × Obj)}
  {p : Program} {loose : List Str} {mean : ExcName → Option Value} {mg mb : Str → Option Value} {x : Str}
theorem exc_matches {A : Around} {C : Addr} {nm q : Str} {Nn : Addr} {bs bm : List Value} {hdct : Bool} {sn : List Str} {sub : List Value} {ab : Bool} {col : Option Bool} {dd : Option Addr} {k0 k1 k2 k3 k5 : Option Value} {newId : String} {h : Heap} {g : Array GenState} {d : Drawn} {t : Nat} {os : OsState} {e : Addr} {oe : Obj} {Q : Bool → Shared → Prop}
    (hP : h.get? 87 = some pe87) (hC : h.get? C = some (excClassObj nm q C Nn bs bm hdct sn sub ab col dd k0 k1 k2 k3 k5 newId)) (he : h.get? e = some oe) (hcls : oe.cls = .ref C) (hm : (Value.ref C :: bm).contains (.ref 87) = true)
    (hq : Q true ⟨h, g, d, t, os⟩) : wpAny (model theProg w) A (excMatches (.ref e) (.ref 87)) Q E ⟨h, g, d, t, os⟩ := by
  have hcB : (Value.ref 87 :: [Value.ref 31, .ref 45, .type "Exception", .type "BaseException", .type "object"]).contains (.type "BaseException") = true := by decide
  have f := tc_notTuple
  unfold excMatches
  repeat (first | (with_reducible refine wpAny_loadPart_at he ?_; rw [hcls]) | with_reducible refine wpAny_loadPart_at hP ?_ | with_reducible refine wpAny_loadPart_at hC ?_ | (with_reducible refine wpAny_isSubtype_exc hP ?_; rw [hcB]) | (with_reducible refine wpAny_isSubtype_exc hC ?_; rw [hm]) | wp_step)
  exact hq
theorem caught_peS {base g G : Heap} {C : Addr} {nm q : Str} {Nn : Addr} {bs bm : List Value} {hdct : Bool} {sn : List Str} {sub : List Value} {ab : Bool} {col : Option Bool} {dd : Option Addr} {k0 k1 k2 k3 k5 : Option Value} {newId : String}
    (K : Below A₀ base outer g) (F : Fr g L G m) (hsm : G.UpToSlots s'.heap) (R : RaisedS base G (envOf name scope L a cd :: outer) e (.ref C) t vs news s'.heap)
    (XB : (hd.heap_39 w.params).In base) (TB : Top p loose mean mg mb base) (ex : nsIn (hd.heap_39 w.params) mainGlobals x = some (some (.ref 87)))
    (hcl : ∀ h, (hd.heap_39 w.params).In h → h.get? C = some (excClassObj nm q C Nn bs bm hdct sn sub ab col dd k0 k1 k2 k3 k5 newId)) (hmt : (Value.ref C :: bm).contains (.ref 87) = true)
    (k : ∀ h' g', KtsTurn (outer.filterMap (·.frame)) g g' → Fr g' L h' m → News g' L h' news → Below A₀ base outer g' → (hd.heap_39 w.params).In g' → Top p loose mean mg mb g' →
      wpAny (model theProg w) ((A₀.deeper (envOf name scope L a cd)).mark (some (.ref e))) (execs (b₀ :: suite) (envOf name scope L a cd)) Q E { s' with heap := h' })
    (hk : scope.kind = .function := by rfl) (hx : (envOf name scope L a cd).kindOf x = some .globalImplicit := by rfl) (hdg : (x == ("__debug__" : Str)) = false := by decide)
    (hE : PassesOwnAt (model theProg w) ((A₀.deeper (envOf name scope L a cd)).mark (some (.ref e))) (A₀.deeper (envOf name scope L a cd)) (envOf name scope L a cd) E := by passes_own) :
    wpAny (model theProg w) (A₀.deeper (envOf name scope L a cd)) (noteFrame (.ref e) (envOf name scope L a cd))
      (fun _ s₂ => wpAny (model theProg w) (A₀.deeper (envOf name scope L a cd)) (setFlight (.ref e) none) (fun _ s₃ =>
        wpAny (model theProg w) (A₀.deeper (envOf name scope L a cd)) (handleBy (.ref e) (envOf name scope L a cd) (.ExceptHandler (some (.Name x np)) none (b₀ :: suite) pos :: rest)) Q E s₃) E s₂) E s' := by
  obtain ⟨⟨B, hB, hBG, hl, hfl, hnew⟩, htup⟩ := R
  have hL : B.get? L = none := by
    obtain ⟨_, ⟨L', _, hf, hn', _⟩, _⟩ := hfl.2.2.1
    obtain rfl : L = L' := Option.some.inj hf
    exact hn'
  refine wpAny_looks_onW (Around.frames_deeper K.stack) rfl hfl fun h₄ hheld₄ hsm₄ => ?_
  refine wpAny_landsW hheld₄ fun h₅ hheld hsm₅' => ?_
  have hsm₅ := hsm₄.trans hsm₅'
  obtain ⟨g₅, T₅, F₅, K₅⟩ := kts_ground K F hBG hheld.1 (hsm.trans hsm₅)
  have X₅ : (hd.heap_39 w.params).In g₅ := XB.keeps K₅.stays
  have P₅ : TopRead p loose mg mb g₅ := topRead_of (TB.keeps K₅.stays)
  obtain ⟨ob, hob, hobc⟩ := hheld.there
  refine wpAny_handleBy_cons (codeAny_handlers_test (name_K F₅ X₅ P₅ ex ?_ hk hx hdg)) (by intro q; cases q)
  refine exc_matches (pe_lookup (X₅.keeps F₅.keep)) (hcl _ (X₅.keeps F₅.keep)) hob hobc hmt (codeAny_handlers_suite ?_)
  refine lands_againW hheld fun h₆ hfl₆ hsm₆ => ?_
  obtain ⟨g₆, T₆, F₆, K₆⟩ := kts_ground K F hBG hfl₆.1 ((hsm.trans hsm₅).trans hsm₆)
  have Nl : News g₆ L h₆ news := fun q hq => ⟨hfl₆.1 _ _ (hl q hq).1, (fun z => by have := (hl q hq).1; rw [z, hL] at this; cases this), T₆.none_ _ (kts_none F.keep (hl q hq).2.1)⟩
  exact wpAny_passesOwnAt hE (k h₆ g₆ T₆ F₆ Nl K₆ (XB.keeps K₆.stays) (TB.keeps K₆.stays))
end
theorem off_two {l : Led} {e t : Addr} : ∀ q ∈ l.filter (fun z => decide (z.1 ≠ e ∧ z.1 ≠ t)), q ∈ l ∧ q.1 ≠ e ∧ q.1 ≠ t := fun _ hq =>
  ⟨(List.mem_filter.mp hq).1, of_decide_eq_true (List.mem_filter.mp hq).2⟩
theorem turn_FG {h₀ g g' : Heap} {L : Addr} {m : Str → Option Value} {fs : List Addr} (F : Fr h₀ L g m) (T : KtsTurn fs g g') (hf : ∀ b ∈ fs, b = L) : Fr h₀ L g' m := by
  refine ⟨?_, fun b o e => T.other b o (F.keep b o e) fun hm => ?_, F.above⟩
  · refine Heap.UpToSlots.ns (h := g) (fun b o e _ => T.up e) F.ns
  · rw [hf b hm, kts_self F] at e; cases e
end
section
theorem off_Rw2 : True := by
  w_top off
  exact True.intro
theorem unr_Rw2 {a b : Nat} (h : a < b) : a < b := h
local macro_rules | `(tactic| k_room) => `(tactic| ((try simp only [depth_under_make, depth_under_kw, depth_in1, depth_deeper, depth_caller]); (try dsimp only [ktrTop]); (try simp only [recursionLimit]); omega))
local macro_rules | `(tactic| k_units) => `(tactic| ((try simp only [units_in1, units_deeper, Around.mark_units, units_caller]); (try dsimp only [ktrTop]); (try simp only [cLine]); omega))
local macro_rules | `(tactic| k_enter) => `(tactic| (refine' code_def ?k1 ?k2 ?k3 ?k4 ?k5 ?kA ?kF ?kK ?k6 ?k7 ?k8 ?k9 ?kB ?_ ?c2 ?c3 ?c4 ?c5; (case kA => exact rfl); (case kF => exact rfl); (case kK => first | assumption | exact rfl); (case k1 => k_asm); (case k2 => k_asm); (case k3 => k_asm); (case k4 => k_asm); (case k5 => k_asm); (case k6 => k_is); (case k7 => k_is); (case k8 => k_room); (case k9 => first | exact BindsTo.of_eq rfl | exact binds_K (by k_in) rfl (by k_is) rfl rfl rfl | fail "k_enter: no rule for these arguments"); (case c5 => decide); (case kB => exact locs rfl); (case c2 => exact rfl); (case c3 => exact rfl); (case c4 => exact rfl); k_whole; intro g' L' h' FG' F' N' B' X' T'; (try dsimp only); (try k_lift B'); (try k_fold)))
local macro_rules | `(tactic| k_all) => `(tactic| (refine ne_of_below (by assumption) ?_; first | exact Nat.le_refl _ | omega))
local macro_rules | `(tactic| k_mem) => `(tactic| first | exact List.Mem.head _ | (refine List.Mem.tail _ ?_; k_mem) | assumption)
section
variable {prog : Program} {w : World} {A₀ A : Around} {s : Shared} {base h₀ g₀ : Heap} {L a : Addr} {m : Str → Option Value} {env : Env} {news : List (Addr × Obj)} {K : Frag} {p : Program} {loose : List Str} {mean : ExcName → Option Value} {mg mb : Str → Option Value}
    {R : Result → Shared → Prop} {name qual : Str} {params : Arguments} {body : List Stmt} {scope : Scope} {dV kV doc pm cdv ct oc : Value} {an od : Option Addr} {osl : Array (Option Value)} {f : Addr} {args : Args} {binds : List (Str × Value)}
/-- a call from the top, of a function that catches: its start may turn -/
theorem code_defT (B : Below A₀ base [] h₀) (F : Fr h₀ L s.heap m) (X₀ : K.In h₀) (N : News h₀ L s.heap news) (T : Top p loose mean mg mb h₀) (hA : A.frames = some [env]) (hf : env.frame = some L) (hke : env.scope.kind = .function)
    (ho : K.lookup f = some ⟨oc, od, .func (fnOf name qual params body scope dV kV doc pm an cdv ct), osl⟩) (hcd : codeIn K cdv qual = true) (hroom : A.depth < recursionLimit)
    (hbind : BindsTo s (fnOf name qual params body scope dV kV doc pm an cdv ct) args binds) (hloc : ∀ y ∈ binds, scope.names.lookup y.1 = some .local)
    (h : ∀ g L' h₁, Fr h₀ L g m → Fr g L' h₁ (fun y => binds.reverse.lookup y) → News g L' h₁ news → Below A base [env] g → K.In g → Top p loose mean mg mb g →
      wpAny (model prog w) (A.deeper (envOf qual scope L' f cdv)) (execs body (envOf qual scope L' f cdv))
        (fun fl s' => LeaveS0 [L] h₀ L m g R (match fl with | .ret v => v | _ => .none) s')
        (fun e s' => wpAny (model prog w) (A.deeper (envOf qual scope L' f cdv)) (leaving (envOf qual scope L' f cdv) e) (fun _ s'' => R (.error e) s'') (fun e' s'' => R (.error e') s'') s')
        { s with heap := h₁, toks := s.toks + binds.length })
    (hco : scope.isCoroutine = false) (hgen : scope.isGenerator = false) (hk : scope.kind = .function)
    (hcell : ∀ x ∈ scope.names, x.2 ≠ .cell) : codeAny (model prog w) A (.call (.ref f) args) R s := by
  have X := X₀.keeps F.keep
  refine codeAny_call_def (fd := fnOf name qual params body scope dV kV doc pm an cdv ct) (body := body) (binds := binds) hroom (X _ _ ho) rfl (T.nolimit.keeps F.keep) (codeRec_of X hcd) rfl hbind hcell hloc (fun h₁ hns hk₁ => ?_) hco hgen hk
  have nm : ∀ b o, h₀.get? b = some o → b ∉ news.map (·.1) := fun b o e q => by
    obtain ⟨p, hp, rfl⟩ := List.mem_map.mp q
    rw [(N p hp).2.2] at e; cases e
  have st : h₀.StaysIn (hideAll s.heap (news.map (·.1))) := fun b o e => hideAll_get _ (F.keep b o e) (nm b o e)
  obtain ⟨oL, es, ep, hL, hLd, hLk, hLf⟩ := F.ns
  have nL : L ∉ news.map (·.1) := fun q => by
    obtain ⟨p, hp, e⟩ := List.mem_map.mp q
    exact (N p hp).2.1 e
  have hLg := hideAll_get (news.map (·.1)) hL nL
  have nL₀ : h₀.get? L = none := kts_self F
  have bn : base.get? L = none := fresh_of_stays B.stays nL₀
  have B₂ : Below A base [env] (hideAll s.heap (news.map (·.1))) := ⟨hA, fun b o e => st b o (B.stays b o e), ⟨(by rw [hke]; decide), ⟨L, oL, hf, bn, hLg, fun vs q => by rw [hLd] at q; cases q⟩, trivial⟩⟩
  refine wpAny_mono (h _ s.heap.objs.size h₁ ⟨⟨oL, es, ep, hLg, hLd, hLk, hLf⟩, st, F.above⟩ ⟨hns, fun b o e => hk₁ b o (of_hideAll _ e), Nat.le_of_eq (hideAll_size _ _)⟩
    (fun p hp => ⟨hk₁ _ _ (N p hp).1, Nat.ne_of_lt (Heap.lt_size (N p hp).1), hideAll_none _ (List.mem_map_of_mem hp)⟩) B₂ (X₀.keeps st) (T.keeps st)) (fun fl s' hl => ?_) fun _ _ y => y
  obtain ⟨g', L', m', news', T', F', N', k⟩ := hl
  obtain ⟨sl, hs⟩ := T'.up hLg
  refine k ⟨⟨_, es, ep, F'.keep _ _ hs, hLd, hLk, hLf⟩, fun b o e => F'.keep b o (T'.other b o (st b o e) (fun q => by
    rw [List.mem_singleton.mp q, nL₀] at e
    cases e)), F.above⟩ fun p hp => ⟨(N' p hp).1, fun q => ?_, ?_⟩
  · have := (N' p hp).2.2; rw [q, hs] at this; cases this
  · cases q : h₀.get? p.1 with
    | none => rfl
    | some o =>
      obtain ⟨sl', hs'⟩ := T'.up (st _ _ q)
      have := (N' p hp).2.2
      rw [hs'] at this
      cases this
end
end
section
theorem off_Mc : True := by
  w_top off
  exact True.intro
local macro_rules | `(tactic| walk_at "off 0") => `(tactic| fail)
local macro_rules | `(tactic| walk_at "off 1") => `(tactic| fail)
theorem unr_Mc {a b : Nat} (h : a < b) : a < b := h
local macro_rules | `(tactic| k_room) => `(tactic| ((try simp only [depth_under_make, depth_under_kw, depth_in1, depth_deeper, depth_caller]); (try dsimp only [ktrTop]); (try simp only [recursionLimit]); omega))
local macro_rules | `(tactic| k_units) => `(tactic| ((try simp only [units_in1, units_deeper, Around.mark_units, units_caller]); (try dsimp only [ktrTop]); (try simp only [cLine]); omega))
local macro_rules | `(tactic| k_enter) => `(tactic| (refine' code_def ?k1 ?k2 ?k3 ?k4 ?k5 ?kA ?kF ?kK ?k6 ?k7 ?k8 ?k9 ?kB ?_ ?c2 ?c3 ?c4 ?c5; (case kA => exact rfl); (case kF => exact rfl); (case kK => first | assumption | exact rfl); (case k1 => k_asm); (case k2 => k_asm); (case k3 => k_asm); (case k4 => k_asm); (case k5 => k_asm); (case k6 => k_is); (case k7 => k_is); (case k8 => k_room); (case k9 => first | exact BindsTo.of_eq rfl | exact binds_K (by k_in) rfl (by k_is) rfl rfl rfl | fail "k_enter: no rule for these arguments"); (case c5 => decide); (case kB => exact locs rfl); (case c2 => exact rfl); (case c3 => exact rfl); (case c4 => exact rfl); k_whole; intro g' L' h' FG' F' N' B' X' T'; (try dsimp only); (try k_lift B'); (try k_fold)))
local macro_rules | `(tactic| k_all) => `(tactic| (refine ne_of_below (by assumption) ?_; first | exact Nat.le_refl _ | omega))
local macro_rules | `(tactic| k_mem) => `(tactic| first | exact List.Mem.head _ | (refine List.Mem.tail _ ?_; k_mem) | assumption)
theorem keep_um (w : World) (k : EK) : keepIn (hd.heap_39 w.params) (.ref (umOf k)) = true := by
  cases k <;> dsimp only [umOf] <;> (refine kf ?_; k_fill; intro _; k_is)
theorem um_held (w : World) (G : Gram) (hG : G.Ok) (c : Mt) (P : List (Addr × Nat)) (x : Addr) (p j : Nat) (D : Addr) (hx : x ∈ G.xs) (hp : p ≤ G.text.length) (IH : ∀ j D m q, m ∈ G.xs → q ≤ G.text.length → G.rk m q < G.rk x p → MCt w G (c.hold x j D) P m q) (Z : List Addr) (g : Gh) (news : Led) (tt tp : Tok) (hI : Inv w G c P Z g news) (h1 : g.own x = some j) (h2 : g.Ds[j]? = some D) :
    Does w (2 * G.rk x p + 39) (20 * G.rk x p + 190) (call (.ref (umOf (G.kind x))) [.ref x, .str G.text tt, .int p tp, .ref c.C, .ref c.e]) news fun r news' => ∃ g' : Gh, Inv w G c P Z g' news' ∧ Step (g.mu G c) (g'.mu G c) news news' ∧ Res G (g'.mu G c ++ Z) news' x p r ∧ g'.own x = some j ∧ g'.Ds[j]? = some D :=
  (any_um w G hG (c.hold x j D) P x p hx hp (IH j D) Z g news tt tp (hI.hold h1 h2)).weaken (Nat.le_refl _) (Nat.le_refl _) fun _ _ ⟨g', a, b, d⟩ => ⟨g', a.loose, b, d, a.pin (x, j, D) (.head _)⟩
local macro_rules | `(tactic| walk_at "call ref") => `(tactic| (k_here; first | (k_dflt (refine' Does.use (um_held _ _ ?hG _ _ _ _ _ _ ?hx ?hp ?IH _ _ _ _ _ ?hI ?ho ?hD) ?B ?F ?X ?N ?T ?k ?d ?u ?_; (case hG => assumption); (case hI => assumption); (case hx => assumption); (case hp => assumption); (case IH => assumption); (case ho => assumption); (case hD => assumption); (case B => k_asm); (case F => k_asm); (case X => k_asm); (case N => k_asm); (case T => k_asm); (case k => exact rfl); (case d => k_room); (case u => k_units); intro r9 n9 h9 t9 F9 N9 R9; (try dsimp only); (try k_fold); refine stop ?_)) | refine stop ?_))
theorem OidsAt.pairs {n : Led} {d : Addr} {prs : Prs} (h : OidsAt n d prs) : ∀ p ∈ prs, ∃ tk k', (p.1, tupO [.int p.2.1 tk, .ref p.2.2] k') ∈ n := by
  rcases h with ⟨rfl, _⟩ | ⟨_, _, _, _, _, _, _, h⟩
  · exact fun _ h => nomatch h
  · exact h
theorem oids_getS {w : World} {A : Around} {E : Value → Shared → Prop} {s : Shared} {h₀ : Heap} {L : Addr} {m : Str → Option Value} {n₀ news : Led} {G : Gram} {x : Addr} {prs : Prs} {te : Addr} {k : Nat} {t0 : Tok} {Q : Value → Shared → Prop} (X : (hd.heap_39 w.params).In h₀) (hA : A.handled = none) (F : Fr h₀ L s.heap m) (N : News h₀ L s.heap news) (hE : ExprAt G n₀ x) (hO : OidsAt n₀ (G.dx x) prs) (K : ∀ z ∈ n₀, z ∈ news) (hte : (te, tupO [] k) ∈ news)
    (h : ∀ t' k' h' tk, (t', tupO (prs.map fun p => .ref p.1) k') ∈ news → Fr h₀ L h' m → News h₀ L h' news → Q (.ref t') { s with heap := h', toks := tk }) :
    wpAny (model PySem.Challenge.rw_vj0022_01.row.prog w) A (call (.builtin "getattr") [.ref x, .str (Str.ofString "oids") t0, .ref te]) Q E s :=
  oids_get X hA F N (hE.nd fun z hz _ => K z hz) (hO.nd fun z hz _ => K z hz) hte h
local macro_rules | `(tactic| walk_at "call builtin:getattr") => `(tactic| (k_here; k_dflt (first
 | ((with_reducible show wpAny _ _ (call _ [_, Value.str (Str.ofString "oids") _, _]) _ _ _); refine' oids_getS ?X ?hA ?F ?N ?hE ?hO ?K ?hte ?_; (case hE => assumption); (case hO => assumption); (case F => k_asm); (case X => k_asm); (case hA => exact rfl); (case N => k_asm);  (case K => (intro z hz; k_mem)); (case hte => k_mem); intro t9 k9 h9 tk9 ht9 F9 N9; (try dsimp only); refine stop ?_)
 | ((with_reducible show wpAny _ _ (call _ [Value.none, Value.str (Str.ofString "name") _, _]) _ _ _); refine' ga_none ?hA ?F ?N ?_; (case hA => exact rfl); (case F => k_asm); (case N => k_asm); intro h9 tk9 F9 N9; (try dsimp only))
 | ((with_reducible show wpAny _ _ (call _ [Value.ref _, Value.str (Str.ofString "name") _, _]) _ _ _); refine' name_ga ?X ?F ?N ?hE ?hO ?_; (case hE => assumption); (case hO => assumption); (case X => k_asm); (case F => k_asm); (case N => k_asm); intro nm9 nt9; (try dsimp only)))))
abbrev sEC : Str := Str.ofString "expr_cache"
abbrev sOI : Str := Str.ofString "oid"
theorem frame5 {x1 x2 : Str} {a : Option Value} {u m : Str → Option Value} : (fun z => if z = x2 then a else anyBut [x1, x2] u m z) = fun z => if z = x2 then a else if z = x1 then u x1 else m z := by
  funext z
  by_cases h2 : z = x2
  · rw [if_pos h2, if_pos h2]
  · rw [if_neg h2, if_neg h2]
    unfold anyBut
    by_cases h1 : z = x1
    · rw [if_pos h1, if_pos (by simp [h1]), h1]
    · rw [if_neg h1, if_neg (by simp [h1, h2])]
def Found (w : World) (G : Gram) (c : Mt) (P : List (Addr × Nat)) (Z : List Addr) (x : Addr) (g : Gh) (news : Led) (h₀ : Heap) (L : Addr) (m : Str → Option Value) (s s' : Shared) : Prop :=
  ∃ g' n' j D v h tk, s' = { s with heap := h, toks := tk } ∧ Fr h₀ L h (fun z => if z = sEC then some (.ref D) else if z = sOI then v else m z) ∧ News h₀ L h n' ∧ Inv w G c P Z g' n' ∧ Step (g.mu G c) (g'.mu G c) news n' ∧ g'.own x = some j ∧ g'.Ds[j]? = some D
theorem for_then {prog : Program} {w : World} {A : Around} {E : Value → Shared → Prop} {s : Shared} {h₀ : Heap} {Q : Flow → Shared → Prop} {m : Str → Option Value} {t : Sem Flow} {L : Addr} (G : Gram) (c : Mt) (P : List (Addr × Nat)) (Z : List Addr) (x : Addr) (g : Gh) (news : Led) (_F₀ : Fr h₀ L s.heap m) (_N₀ : News h₀ L s.heap news)
    (h1 : wpAny (model prog w) A t (fun fl s' => fl = Flow.next ∧ Found w G c P Z x g news h₀ L m s s') E s) (h2 : ∀ s', Found w G c P Z x g news h₀ L m s s' → Q .next s') : wpAny (model prog w) A t Q E s :=
  wpAny_mono h1 (fun _ s' h => h.1 ▸ h2 s' h.2) fun _ _ e => e
theorem isSome_some {α : Type} {o : Option α} {v : α} (h : o = some v) : o.isSome = true := by rw [h]; rfl
theorem isSome_none {α : Type} {o : Option α} (h : o = none) : o.isSome = false := by rw [h]; rfl
abbrev sND : Str := Str.ofString "node"
def Noded (w : World) (G : Gram) (c : Mt) (P : List (Addr × Nat)) (Z : List Addr) (x : Addr) (p : Nat) (g : Gh) (news : Led) (h₀ : Heap) (L : Addr) (m : Str → Option Value) (s s' : Shared) : Prop :=
  ∃ g' n' r h tk, s' = { s with heap := h, toks := tk } ∧ Fr h₀ L h (fun z => if z = sND then some r else m z) ∧ News h₀ L h n' ∧ Inv w G c P Z g' n' ∧ Step (g.mu G c) (g'.mu G c) news n' ∧ Res G (g'.mu G c ++ Z) n' x p r
theorem node_then {prog : Program} {w : World} {A : Around} {E : Value → Shared → Prop} {s : Shared} {h₀ : Heap} {Q : Flow → Shared → Prop} {m : Str → Option Value} {t : Sem Flow} {L : Addr} (G : Gram) (c : Mt) (P : List (Addr × Nat)) (Z : List Addr) (x : Addr) (p : Nat) (g : Gh) (news : Led) {n₁ : Led} (_F₀ : Fr h₀ L s.heap m) (_N₀ : News h₀ L s.heap n₁)
    (h1 : wpAny (model prog w) A t (fun fl s' => fl = Flow.next ∧ Noded w G c P Z x p g news h₀ L m s s') E s) (h2 : ∀ s', Noded w G c P Z x p g news h₀ L m s s' → Q .next s') : wpAny (model prog w) A t Q E s :=
  wpAny_mono h1 (fun _ s' h => h.1 ▸ h2 s' h.2) fun _ _ e => e
theorem frame3 {x1 x2 : Str} {a b : Option Value} {u m : Str → Option Value} : ∀ z, z ≠ x1 → z ≠ x2 → (if z = x2 then a else if z = x1 then b else anyBut [x1, x2] u m z) = m z := fun z h1 h2 => by
  rw [if_neg h2, if_neg h1]
  unfold anyBut
  rw [if_neg]
  simp [h1, h2]
theorem frame4 {x1 x2 : Str} {a b : Option Value} {u m : Str → Option Value} : (fun z => if z = x2 then a else if z = x1 then b else anyBut [x1, x2] u m z) = fun z => if z = x2 then a else if z = x1 then b else m z := by
  funext z
  by_cases h2 : z = x2
  · rw [if_pos h2, if_pos h2]
  · by_cases h1 : z = x1
    · rw [if_neg h2, if_neg h2, if_pos h1, if_pos h1]
    · rw [frame3 z h1 h2, if_neg h2, if_neg h1]
theorem set_any {prog : Program} {w : World} {A : Around} {E : Value → Shared → Prop} {s : Shared} {h₀ : Heap} {L d : Addr} {m : Str → Option Value} {news : Led} {o : Obj} {kvs : List (Int × Value)} {k : Int} {tk : Tok} {v : Value} {Q : Unit → Shared → Prop}
    (F : Fr h₀ L s.heap m) (N : News h₀ L s.heap news) (hp : (d, o) ∈ news) (hd : o.IsDictOf (intKind prog w) kvs) (hz : kvs.length ≤ 1000)
    (h : ∀ h' o' n', Fr h₀ L h' m → News h₀ L h' n' → (d, o') ∈ n' → o'.IsDictOf (intKind prog w) (stored kvs k v) → (∀ z ∈ news, z.1 ≠ d → z ∈ n') → (∀ z ∈ n', z.1 = d ∨ z ∈ news) → Q () { s with heap := h', toks := s.toks + 1 }) :
    wpAny (model prog w) A (setItem (.ref d) (.int k tk) v) Q E s :=
  kda_set F (focus N hp) (UpdF.head off_filter) hd (intKind_is _ _ _ _) (by rw [sizeLine_eq]; omega) fun h' o' F' N' hd' => h h' o' _ F' N' (.head _) hd' (fun z hz hn => in_filter z hz hn) fun z hz => (List.mem_cons.mp hz).elim (fun e => .inl (e ▸ rfl)) fun h => .inr (List.mem_filter.mp h).1
local macro_rules | `(tactic| walk_at "binaryOp Add ref ref") => `(tactic| (k_here; k_dflt (refine' add_row ?F ?N ?h1 ?h2 ?hz ?_; (case F => k_asm); (case N => k_asm); (case h1 => k_mem); (case h2 => k_mem); (case hz => (rw [List.length_map]; assumption)); intro D8 k8 h8 n8 F8 N8 K8 hD8; (try dsimp only); refine stop ?_)))
local macro_rules | `(tactic| walk_at "setAttr ref") => `(tactic| (k_here; k_dflt (first
 | ((with_reducible show wpAny _ _ (setAttr _ (Str.ofString "oids") _) _ _ _); refine' oids_set ?X ?F ?N ?hE ?hO ?_; (case hE => assumption); (case hO => assumption); (case X => k_asm); (case F => k_asm); (case N => k_asm); intro h1 hs1 tk1 k1 n1 F1 N1 hx1 K1; (try dsimp only); refine stop ?_)
 | ((with_reducible show wpAny _ _ (setAttr _ (Str.ofString "expr") _) _ _ _); refine' err_set_expr ?X ?F ?N ?a ?b ?_; (case a => assumption); (case b => assumption); (case X => k_asm); (case F => k_asm); (case N => k_asm); intro h1 n1 F1 N1 ha1 hb1 K1; (try dsimp only); refine stop ?_)
 | ((with_reducible show wpAny _ _ (setAttr _ (Str.ofString "pos") _) _ _ _); refine' err_set_pos ?X ?F ?N ?a ?b ?_; (case a => assumption); (case b => assumption); (case X => k_asm); (case F => k_asm); (case N => k_asm); intro h1 n1 F1 N1 ha1 hb1 K1; (try dsimp only); refine stop ?_))))
local macro_rules | `(tactic| walk_at "setItem ref") => `(tactic| (k_here; k_dflt (refine' set_any ?F ?N ?hp ?hd ?hz ?_; (case F => k_asm); (case N => k_asm); (case hp => k_mem); (case hd => assumption); (case hz => assumption); intro h7 o7 n7 F7 N7 hp7 hd7 K7 L7; (try dsimp only); refine stop ?_)))
local macro_rules | `(tactic| walk_at "getMethod ref") => `(tactic| (k_here; k_dflt (first | (refine' um_method ?X ?F ?N ?hE ?hO ?_; (case X => k_asm); (case F => k_asm); (case N => k_asm); (case hE => assumption); (case hO => assumption)) | (refine' kdg_method (knd := PySem.intKind _ _) ?N ?hp ?hd ?_; (case N => k_asm); (case hp => k_mem); (case hd => assumption)))))
local macro_rules | `(tactic| walk_at "compareOp In int ref") => `(tactic| (k_here; k_dflt (refine' kda_in (knd := PySem.intKind _ _) ?N ?hp ?hd ?lo ?hk _ ?hb ?_; (case N => k_asm); (case hp => k_mem); (case hd => assumption); (case lo => assumption); (case hk => exact intKind_is _ _ _ _); (case hb => first | exact isSome_some (by assumption) | exact isSome_none (by assumption)))))
local macro_rules | `(tactic| walk_at "subscriptTail") => `(tactic| (k_here; k_dflt (refine' kda_item (knd := PySem.intKind _ _) ?N ?hp ?hd ?hk ?hl ?_; (case N => k_asm); (case hp => k_mem); (case hd => assumption); (case hk => exact intKind_is _ _ _ _); (case hl => assumption))))
local macro_rules | `(tactic| walk_at "call builtin:dict.get") => `(tactic| (k_here; k_dflt (refine' kdg_get1 (knd := PySem.intKind _ _) ?N ?hp ?hd ?lo ?hk _ ?hl ?_; (case N => k_asm); (case hp => assumption); (case hd => assumption); (case lo => assumption); (case hk => exact intKind_is _ _ _ _); (case hl => assumption); (try dsimp only [Option.getD]))))
theorem nd_ne {K : Frag} {h₀ h : Heap} {L a b : Addr} {news : Led} {o ob : Obj} (X : K.In h₀) (N : News h₀ L h news) (ha : (a, o) ∈ news) (hb : K.lookup b = some ob) : a ≠ b := fun e => by
  subst e
  have h1 := (N _ ha).2.2
  rw [X _ _ hb] at h1
  cases h1
local macro_rules | `(tactic| walk_at "compareOp Is ref ref") => `(tactic| (k_here; k_dflt (first | refine wpAny_is_ref_self ?_ | (refine' kto_is (kto_N ?N1 ?m1) (kto_N ?N2 ?m2) ?ne ?c ?_; (case N1 => k_asm); (case N2 => k_asm); (case m1 => assumption); (case m2 => assumption); (case ne => assumption); (case c => assumption)) | (refine' kto_is (kto_N ?N1 ?m1) (kto_K ?X ?lk) (nd_ne ?X0 ?N0 ?m0 ?lk0) ?c ?_; (case N1 => k_asm); (case m1 => assumption); (case X => k_in); (case lk => k_is); (case X0 => k_asm); (case N0 => k_asm); (case m0 => assumption); (case lk0 => k_is); (case c => assumption)))))
theorem truthy_two {prog : Program} {w : World} {A : Around} {E : Value → Shared → Prop} {s : Shared} {x : Str} {t : Tok} {Q : Bool → Shared → Prop} (hl : x.length ≤ 100) (h1 : ∀ k, Q true { s with toks := k }) (h2 : ∀ k, Q false { s with toks := k }) : wpAny (model prog w) A (PySem.truthy (.str x t)) Q E s := by
  cases hb : ((x.length : Int) != 0) with
  | true => exact KXt.truthy hb (by omega) h1
  | false => exact KXt.truthy hb (by omega) h2
local macro_rules | `(tactic| walk_at "truthy str") => `(tactic| (k_here; k_dflt (refine' truthy_two ?hl ?_ ?_; (case hl => exact Subtype.property _); all_goals intro k9; all_goals try dsimp only)))
local macro_rules | `(tactic| walk_at "getAttr ref") => `(tactic| (k_here; k_dflt (first
 | ((with_reducible show wpAny _ _ (getAttr _ (Str.ofString "pos") _) _ _ _); refine' err_pos ?X ?F ?N ?a ?b ?_; (case X => k_asm); (case F => k_asm); (case N => k_asm); (case a => assumption); (case b => assumption))
 | ((with_reducible show wpAny _ _ (getAttr _ (Str.ofString "expr") _) _ _ _); refine' err_expr ?X ?F ?N ?a ?b ?hx ?_; (case X => k_asm); (case F => k_asm); (case N => k_asm); (case a => assumption); (case b => assumption); (case hx => first | rfl | assumption))
 | ((with_reducible show wpAny _ _ (getAttr _ (Str.ofString "name") _) _ _ _); refine' name_get ?X ?F ?N ?hE ?hO ?_; (case hE => assumption); (case hO => assumption); (case X => k_asm); (case F => k_asm); (case N => k_asm); intro nm9 nt9; refine stop ?_))))
local macro_rules | `(tactic| walk_at "call builtin:len") => `(tactic| (k_here; k_dflt (refine' kda_len (knd := PySem.intKind _ _) ?N ?hp ?hd ?lo ?hf ?_; (case N => k_asm); (case hp => k_mem); (case hd => assumption); (case lo => assumption); (case hf => assumption))))
theorem mc_walk (w : World) (G : Gram) (hG : G.Ok) (c : Mt) (P : List (Addr × Nat)) (x : Addr) (p : Nat) (hx : x ∈ G.xs) (hp : p ≤ G.text.length) (hP : (x, p) ∉ P) (IH : ∀ j D m q, m ∈ G.xs → q ≤ G.text.length → G.rk m q < G.rk x p → MCt w G (c.hold x j D) ((x, p) :: P) m q) : MCt w G c P x p := by
  intro Z g news tt tp hI
  have hE := hI.expr x hx
  obtain ⟨prs, hO, hprs, hL⟩ := hI.oids x hx
  unfold Does
  k_fill
  intro dp un gd cn cs a ccd cl outer A₀ base h₀ L mm s loose mean mg mb Q E B F X N T hkk hdp hun hret
  refine wpAny_call ?_
  k_enter
  k_steps
  refine for_then G c P Z x g news (by assumption) (by assumption) ?_ ?_
--A{
  refine pairs_loop (prs := prs) (fun p => g.Ds[p.2.1]? ≠ some p.2.2) (by exact rfl) (by exact rfl) (by exact rfl) (by exact rfl) (by passes_own) (by assumption) (by assumption) (by exact rfl) (fun _ => rfl) ?_ ?_ ?_
  · k_steps
    refine unstop ?_
    rename_i _ F9 N9
    exact ⟨_, _, _, _, _, _, rfl, rfl, F9, N9, fun _ _ _ => rfl, fun z hz => by k_mem, by assumption, fun p hp => let ⟨tk, k', q⟩ := hO.pairs p hp; ⟨tk, k', by k_mem⟩⟩
  · intro i pr tk u h5 tk5 n5 hpr F5 N5 K5
    have hdc := hI.cache
    obtain ⟨oC, kvs, hC1, hC2, hC3, hC4⟩ := hdc
    have hC6 := K5 _ hC1
    have hcn := hI.cne
    have hv := hC4 pr.2.1
    cases hD : g.Ds[pr.2.1]? with
    | none =>
      rw [hD] at hv
      dsimp only [Option.map] at hv
      k_steps
      exact ⟨h5, _, _, n5, rfl, F5, N5, fun _ h => h, frame3, fun e => nomatch e⟩
    | some D =>
      rw [hD] at hv
      dsimp only [Option.map] at hv
      obtain ⟨o1, hD1, hD1c⟩ := hI.dsd D (List.mem_of_getElem? hD)
      have hD1c' : o1.cls ≠ Value.type "tuple" := by rw [hD1c]; decide
      obtain ⟨o2, hD2, _⟩ := hL pr (List.mem_of_getElem? hpr)
      have hD1 := K5 _ hD1
      have hD2 := K5 _ hD2
      by_cases hDD : D = pr.2.2
      · subst hDD
        have hjx : g.own x = some pr.2.1 := by
          have hDm := hI.dlt _ (List.mem_of_getElem? hD)
          cases ho : g.own x with
          | none => rw [ho] at hprs; exact absurd (hprs.1 pr (List.mem_of_getElem? hpr)) (Nat.lt_asymm hDm)
          | some j =>
            rw [ho] at hprs
            obtain ⟨a, D, rest, e1, e2, e3⟩ := hprs
            rw [e1] at hpr
            cases i with
            | zero => cases hpr; rfl
            | succ i => exact absurd (e3.1 pr (List.mem_of_getElem? hpr)) (Nat.lt_asymm hDm)
        k_steps
        rw [frame4] at F5
        exact ⟨rfl, g, n5, _, _, _, h5, _, rfl, F5, N5, hI.mono K5, .of_sub K5, hjx, hD⟩
      · k_steps
        exact ⟨h5, _, _, n5, rfl, F5, N5, fun _ h => h, frame3, fun e => hDD (Option.some.inj e)⟩
  · intro u h5 tk5 n5 hmiss F5 N5 K5
    have hown : g.own x = none := by
      cases ho : g.own x with
      | none => rfl
      | some j =>
        rw [ho] at hprs
        obtain ⟨a, D, rest, e1, e2, e3⟩ := hprs
        exact absurd e2 (hmiss (a, j, D) (by rw [e1]; exact .head _))
    rw [hown] at hprs
    have hpl : prs.length ≤ 1000 := by have h1 := hprs.2.1; have h2 := hprs.2.2; omega
    have hdc := hI.cache
    obtain ⟨oC, kvs, hC1, hC2, hC3, hC4⟩ := hdc
    have hC6 := K5 _ hC1
    have hcn := hI.cne
    have hkl : kvs.length ≤ 1000 := by
      have h1 := hI.cnt
      have h2 := List.length_filter_le (fun x => (g.own x).isSome) G.xs
      have h3 := hG.few
      omega
    have hkl2 : kvs.length ≤ 16777216 := by omega
    k_steps
    refine unstop ?_
    rename_i d7 h6 o6 lD lDs hs6 fs6 hi6 fi6 h66 F6 N6 h7 o7 n7 F7 N7 hp7 hd7 K7 L7
    have hvn : valueAt kvs (kvs.length : Int) = none := by rw [hC4, hC3, List.getElem?_eq_none (Nat.le_refl _)]; rfl
    rw [stored_new hvn] at hd7
    have offC : ∀ z ∈ news, z.2.cls ≠ dT → z.1 ≠ c.C := fun z hz hc e => hc (by rw [sameAddr N (a := c.C) (o := z.2) (o' := oC) (e ▸ hz) hC1]; exact dict_cls hC2)
    have dxC : G.dx x ≠ c.C := Nat.ne_of_lt (Nat.lt_trans (hI.dxlt x hx) hI.delt)
    have hE2 : ExprAt G n7 x := hE.nd fun z hz hc => K7 z (.tail _ (K5 z hz)) (offC z hz hc)
    have hO2 : OidsAt n7 (G.dx x) prs := hO.nd fun z hz hc => K7 z (.tail _ (K5 z hz)) (hc.elim (offC z hz) fun e => e ▸ dxC)
    obtain ⟨ox, hdx1, hdxd⟩ := hI.mudict _ (in_mu_dx (c := c) (g := g) hx)
    clear hE hO
    have hkl3 : (kvs ++ [((kvs.length : Int), Value.ref d7)]).length ≤ 16777216 := by rw [List.length_append, List.length_singleton]; omega
    k_steps
    refine unstop ?_
    k_steps
    refine unstop ?_
    rename_i t9 k9 h9 tk9 ht9 F9 N9 D8 k8 h8 n8 F8 N8 K8 hD8
    have K78 : ∀ z ∈ n7, z ∈ n8 := fun z hz => K8 z (by k_mem)
    have hrow : ∃ a tk k k8, (a, tupO [.int (((kvs ++ [((kvs.length : Int), Value.ref d7)]).length : Int) - 1) tk, .ref d7] k) ∈ n8 ∧ (D8, tupO (.ref a :: prs.map fun p => .ref p.1) k8) ∈ n8 := by
      refine' ⟨_, _, _, _, K8 _ ?mem, hD8⟩
      case mem => k_mem
    obtain ⟨ar, tr, kr, k8', hr1, hr2⟩ := hrow
    have hlen : (((kvs ++ [((kvs.length : Int), Value.ref d7)]).length : Int) - 1) = (g.Ds.length : Int) := by rw [List.length_append, List.length_singleton, hC3]; omega
    rw [hlen] at hr1
    have hE3 := hE2.nd (n' := n8) fun z hz _ => K78 z hz
    have hO3 := hO2.nd (n' := n8) fun z hz _ => K78 z hz
    have tup8 : ∀ z ∈ n8, z.2.cls = .type "tuple" → z.1 ≠ G.dx x := fun z hz hc e => by
      obtain ⟨od, hod, hodc⟩ : ∃ od, (G.dx x, od) ∈ n8 ∧ od.cls = dT := by
        rcases hO3 with ⟨_, n, h1⟩ | ⟨_, _, _, _, _, h1, _⟩
        · exact ⟨_, h1, rfl⟩
        · exact ⟨_, h1, rfl⟩
      rw [sameAddr N8 (a := G.dx x) (o := z.2) (o' := od) (e ▸ hz) hod, hodc] at hc
      exact absurd hc (by decide)
    clear hE2 hO2
    k_steps
    refine unstop ?_
    rename_i h1 hs1 tk1 k1 n1 F1 N1 hx1 K1
    k_steps
    have CD : c.C < d7 := lD _ hC6
    have dxD : G.dx x < d7 := Nat.lt_trans (Nat.lt_trans (hI.dxlt x hx) hI.delt) CD
    have to1 : ∀ z ∈ n5, z.1 ≠ c.C → z.1 ≠ G.dx x → z ∈ n1 := fun z hz a b => K1 z (K78 z (K7 z (.tail _ hz) a)) b
    have hC' := K1 _ (K78 _ hp7) dxC.symm
    have hD' := K1 _ (K78 _ (K7 (d7, o6) (.head _) (Nat.ne_of_gt CD))) (Nat.ne_of_gt dxD)
    have hrow : OidsAt n1 (G.dx x) ((ar, g.Ds.length, d7) :: prs) := by
      have tupne : ∀ (z : Addr × Obj), z ∈ n8 → z.2.cls = .type "tuple" → z ∈ n1 := fun z hz hc => K1 z hz (tup8 z hz hc)
      refine .inr ⟨_, _, _, _, _, hx1, tupne _ hr2 rfl, fun q hq => ?_⟩
      rcases List.mem_cons.mp hq with rfl | hq
      · exact ⟨_, _, tupne _ hr1 rfl⟩
      · obtain ⟨a, b, c⟩ := hO3.pairs q hq
        exact ⟨a, b, tupne _ c rfl⟩
    rw [frame5] at F1
    refine ⟨g.visit x d7, n1, g.Ds.length, d7, _, h1, _, rfl, F1, N1, Inv.newRow hG N hI hx hown hC1 (dict_cls hC2) hdx1 hdxd (fun z hz => to1 z (K5 z hz)) hC3 hC4 hC' (by rw [← hC3, stored_new hvn]; exact hd7) (fun z hz => lD z (K5 z hz)) hD' hi6 lDs ⟨hprs.1, hprs.2.1⟩ hL hrow, Step.visit N hx hC1 (dict_cls hC2) hdx1 hdxd hC' hx1 (fun z hz => to1 z (K5 z hz)) (fun z hz => lD z (K5 z hz)), ?_, ?_⟩
    · show (if x = x then some g.Ds.length else g.own x) = _
      rw [if_pos rfl]
    · show (g.Ds ++ [d7])[g.Ds.length]? = _
      rw [List.getElem?_append_right (Nat.le_refl _), Nat.sub_self]; rfl
--A}
  · rintro s' ⟨g1, n1, j, D, v, h1, tk1, rfl, F1, N1, I1, S1, hown, hD⟩
    clear hE hO hprs hL prs
    show wpAny _ _ _ _ _ _
    refine wpAny_execs_cons ?_
    refine node_then G c P Z x p g news F1 N1 ?_ ?_
--B{
    · obtain ⟨D', o, kvs, r1, r2, r3, r4, r5⟩ := I1.rows x hx j hown
      have e : D' = D := Option.some.inj (r1.symm.trans hD)
      subst e
      cases hv : valueAt kvs (p : Int) with
      | some v9 =>
        obtain ⟨p', p1, p2, p3⟩ := r5 _ (valueAt_mem hv)
        have p1 : p = p' := by have p1 : (p : Int) = (p' : Int) := p1; omega
        subst p1
        have hR : Res G (g1.mu G c ++ Z) n1 x p v9 := p3.resolve_left fun q => hP q.2
        k_steps
        exact ⟨g1, n1, v9, _, _, rfl, by assumption, by assumption, I1, S1, hR⟩
      | none =>
        have hz1 : kvs.length ≤ 1000 := by
          have h2 := row_len (dict_nodup r3) fun kv hkv => let ⟨p, a, b, _⟩ := r5 kv hkv; ⟨p, a, b⟩
          have h3 := hG.tlen
          omega
        k_steps
        refine unstop ?_
        rename_i h7 o7 n7 F7 N7 hp7 hd7 K7 L7
        have I2 : Inv w G c ((x, p) :: P) Z g1 n7 := I1.setRow N1 hx hown hD r2 (dict_cls r3) hp7 K7 hd7 (fun y q _ h => .tail _ h) fun kv hkv => (stored_mem hkv).elim (fun e => ⟨p, by rw [e], hp, .inl ⟨by rw [e], .head _⟩⟩) fun e => let ⟨p', a, b, d⟩ := r5 kv e.1; ⟨p', a, b, d.imp (fun q => ⟨q.1, .tail _ q.2⟩) id⟩
        have S2 := S1.put N1 (in_mu_D (List.mem_of_getElem? hD)) r2 (dict_cls r3) hp7 K7
        have hE2 := I2.expr x hx
        obtain ⟨prs2, hO2, -⟩ := I2.oids x hx
        clear I1 S1 r2 r5
        k_steps
        refine callWith_K (by assumption) (keep_um w _) ?_
        k_steps
        refine unstop ?_
        rename_i r9 n9 h9 t9 F9 N9 R9
        obtain ⟨g3, I3, S3, hR, hown3, hD3⟩ := R9
        have S3 := S2.trans S3
        clear hE2 hO2 I2 S2 r3 r4 hv
        obtain ⟨D3, o3, kvs3, r1, r2, r3, r4, r5⟩ := I3.rows x hx j hown3
        have e : D3 = D' := Option.some.inj (r1.symm.trans hD3)
        subst e
        have hz3 : kvs3.length ≤ 1000 := by
          have h2 := row_len (dict_nodup r3) fun kv hkv => let ⟨p, a, b, _⟩ := r5 kv hkv; ⟨p, a, b⟩
          have h3 := hG.tlen
          omega
        k_steps
        refine unstop ?_
        rename_i h8 F8 N8 h7 o7 n7 F7 N7 hp7 hd7 K7 L7
        have I4 : Inv w G c P Z g3 n7 := I3.setRow N8 hx hown3 hD3 r2 (dict_cls r3) hp7 K7 hd7 (fun y q hy h => (List.mem_cons.mp h).resolve_left fun e => hy (Prod.mk.inj e).1) fun kv hkv => (stored_mem hkv).elim (fun e => ⟨p, by rw [e], hp, .inr (by rw [e]; exact hR)⟩) fun e => by
          obtain ⟨p', a, b, d⟩ := r5 kv e.1
          refine ⟨p', a, b, d.imp (fun q => ⟨q.1, (List.mem_cons.mp q.2).resolve_left fun e2 => e.2 ?_⟩) id⟩
          rw [a, (Prod.mk.inj e2).2]
        have S4 := Step.put (M := g3.mu G c) (M' := g3.mu G c) N8 Step.refl (in_mu_D (List.mem_of_getElem? hD3)) r2 (dict_cls r3) hp7 K7
        k_steps
        exact ⟨g3, n7, r9, _, _, rfl, F7, N7, I4, S3.trans S4, hR.step S4⟩
--B}
    · rintro s' ⟨g2, n2, r, h2, tk2, rfl, F2, N2, I2, S2, hR⟩
      clear I1 S1 hown hD F1 N1 IH hP
      have hE := I2.expr x hx
      obtain ⟨prs, hO, -⟩ := I2.oids x hx
      obtain ⟨args, etx, ett, epos, etp, ex, e1, e2, e3, k1, k2, k3, en, ha, hb, hex⟩ := I2.err
      have hres := hR
      unfold Res at hres
      cases hd : G.den x p with
      | some q =>
        rw [hd] at hres
        obtain ⟨nd, rfl, hnd⟩ := hres
        have hnd1 : ∃ o, (nd, o) ∈ n2 ∧ o.cls ≠ Value.type "tuple" := by
          obtain ⟨_, ⟨_, _, _, _, _, _, _, _, _, hq, _⟩, _⟩ := hnd
          exact ⟨_, hq, fun e => nomatch e⟩
        obtain ⟨ond, hnd1, hnd2⟩ := hnd1
        show wpAny _ _ _ _ _ _
        k_steps
        exact hret _ _ _ _ (by assumption) (by assumption) ⟨g2, I2, S2, hR⟩
      | none =>
        rw [hd] at hres
        subst hres
        have fin : ∀ h' tk' n', Fr h₀ L h' mm → News h₀ L h' n' → (∃ epos' etp' ex', (c.de, errD e1 e2 e3 k1 k2 k3 etx ett epos' etp' ex' en) ∈ n' ∧ (ex' = .none ∨ ∃ y ∈ G.xs, ex' = .ref y)) → (c.e, errO args c.de) ∈ n' → (∀ z ∈ n2, z.1 ≠ c.de → z ∈ n') → Q .none { s with heap := h', toks := tk' } := by
          rintro h' tk' n' F' N' ⟨epos', etp', ex', hb', hex'⟩ ha' K'
          have S4 := Step.put (M := g2.mu G c) (M' := g2.mu G c) N2 Step.refl in_mu_de hb rfl hb' K'
          exact hret _ _ _ _ F' N' ⟨g2, I2.setErr N2 hb rfl hb' rfl K' ⟨args, etx, ett, epos', etp', ex', e1, e2, e3, k1, k2, k3, en, ha', hb', hex'⟩, S2.trans S4, hR.step S4⟩
        show wpAny _ _ _ _ _ _
        k_steps
        · refine unstop ?_
          rename_i nm9 nt9
          rcases hex with rfl | ⟨y, hy, rfl⟩
          · k_steps
            · refine unstop ?_
              rename_i h6 n6 F6 N6 ha6 hb6 K6
              k_steps
              refine unstop ?_
              rename_i h8 n8 F8 N8 ha8 hb8 K8
              k_steps
              exact fin _ _ n8 (by assumption) (by assumption) ⟨_, _, _, hb8, .inr ⟨x, hx, rfl⟩⟩ ha8 fun z hz e => K8 z (K6 z hz e) e
            · refine unstop ?_
              rename_i h6 n6 F6 N6 ha6 hb6 K6
              k_steps
              refine unstop ?_
              rename_i h8 n8 F8 N8 ha8 hb8 K8
              k_steps
              exact fin _ _ n8 (by assumption) (by assumption) ⟨_, _, _, hb8, .inr ⟨x, hx, rfl⟩⟩ ha8 fun z hz e => K8 z (K6 z hz e) e
          · have hEy := I2.expr y hy
            obtain ⟨prsy, hOy, -⟩ := I2.oids y hy
            k_steps
            · refine unstop ?_
              rename_i h6 n6 F6 N6 ha6 hb6 K6
              k_steps
              refine unstop ?_
              rename_i h8 n8 F8 N8 ha8 hb8 K8
              k_steps
              exact fin _ _ n8 (by assumption) (by assumption) ⟨_, _, _, hb8, .inr ⟨x, hx, rfl⟩⟩ ha8 fun z hz e => K8 z (K6 z hz e) e
            · exact fin _ _ n2 (by assumption) (by assumption) ⟨_, _, _, hb, .inr ⟨y, hy, rfl⟩⟩ ha fun z hz _ => hz
        · exact fin _ _ n2 (by assumption) (by assumption) ⟨_, _, _, hb, hex⟩ ha fun z hz _ => hz
end
section
theorem off_Ma : True := by
  w_top off
  exact True.intro
theorem unr_Ma {a b : Nat} (h : a < b) : a < b := h
local macro_rules | `(tactic| k_room) => `(tactic| ((try simp only [depth_under_make, depth_under_kw, depth_in1, depth_deeper, depth_caller]); (try dsimp only [ktrTop]); (try simp only [recursionLimit]); omega))
local macro_rules | `(tactic| k_units) => `(tactic| ((try simp only [units_in1, units_deeper, Around.mark_units, units_caller]); (try dsimp only [ktrTop]); (try simp only [cLine]); omega))
local macro_rules | `(tactic| k_enter) => `(tactic| (refine' code_def ?k1 ?k2 ?k3 ?k4 ?k5 ?kA ?kF ?kK ?k6 ?k7 ?k8 ?k9 ?kB ?_ ?c2 ?c3 ?c4 ?c5; (case kA => exact rfl); (case kF => exact rfl); (case kK => first | assumption | exact rfl); (case k1 => k_asm); (case k2 => k_asm); (case k3 => k_asm); (case k4 => k_asm); (case k5 => k_asm); (case k6 => k_is); (case k7 => k_is); (case k8 => k_room); (case k9 => first | exact BindsTo.of_eq rfl | exact binds_K (by k_in) rfl (by k_is) rfl rfl rfl | fail "k_enter: no rule for these arguments"); (case c5 => decide); (case kB => exact locs rfl); (case c2 => exact rfl); (case c3 => exact rfl); (case c4 => exact rfl); k_whole; intro g' L' h' FG' F' N' B' X' T'; (try dsimp only); (try k_lift B'); (try k_fold)))
local macro_rules | `(tactic| k_all) => `(tactic| (refine ne_of_below (by assumption) ?_; first | exact Nat.le_refl _ | omega))
local macro_rules | `(tactic| k_mem) => `(tactic| first | exact List.Mem.head _ | (refine List.Mem.tail _ ?_; k_mem) | assumption)
theorem mc_all (w : World) (G : Gram) (hG : G.Ok) : ∀ (n : Nat) (c : Mt) (P : List (Addr × Nat)) (x : Addr) (p : Nat), G.rk x p = n → (∀ y q, (y, q) ∈ P → n < G.rk y q) → x ∈ G.xs → p ≤ G.text.length → MCt w G c P x p := by
  intro n
  induction n using Nat.strongRecOn with
  | ind n ih =>
    intro c P x p hn hP hx hp
    refine mc_walk w G hG c P x p hx hp (fun h => Nat.lt_irrefl _ (hn ▸ hP x p h)) fun j D m q hm hq hr => ih (G.rk m q) (hn ▸ hr) _ _ m q rfl (fun y q' h => ?_) hm hq
    rcases List.mem_cons.mp h with e | h
    · cases e; exact hr
    · exact Nat.lt_trans (hn ▸ hr) (hP y q' h)
/-- between two matches -/
structure Stt (G : Gram) (B : Nat) (news : Led) : Prop where
  expr : ∀ x ∈ G.xs, ExprAt G news x
  oids : ∀ x ∈ G.xs, ∃ prs : Prs, OidsAt news (G.dx x) prs ∧ Live news prs ∧ prs.length ≤ B
def Gram.dxs (G : Gram) : List Addr := G.xs.map G.dx
theorem Stt.asked {G : Gram} {B : Nat} {n n' : Led} (h : Stt G B n) (s : ∀ z ∈ n, Asked z.2 → z.2.cls ≠ lT → z ∈ n') : Stt G B n' where
  expr := fun x hx => (h.expr x hx).asked s
  oids := fun x hx => let ⟨prs, a, b, d⟩ := h.oids x hx; ⟨prs, a.asked s, b.of fun z hz hc => ⟨_, s z hz (.inl hc) (by rw [hc]; exact dict_nl), hc⟩, d⟩
theorem Stt.mono {G : Gram} {B : Nat} {n n' : Led} (h : Stt G B n) (s : ∀ z ∈ n, z ∈ n') : Stt G B n' := h.asked fun z hz _ _ => s z hz
def g0 : Gh := ⟨[], fun _ => none⟩
theorem Stt.dxin {G : Gram} {B : Nat} {n : Led} (h : Stt G B n) {x : Addr} (hx : x ∈ G.xs) : ∃ o, (G.dx x, o) ∈ n ∧ o.cls = dT := by
  obtain ⟨prs, ⟨_, k, h1⟩ | ⟨_, _, _, _, _, h1, _⟩, _⟩ := h.oids x hx
  · exact ⟨_, h1, rfl⟩
  · exact ⟨_, h1, rfl⟩
theorem Stt.start {w : World} {G : Gram} {B : Nat} {n n' : Led} {e C de : Addr} {oC : Obj} (h : Stt G B n) (hB : B ≤ 900) (s : ∀ z ∈ n, z ∈ n') (hde : ∀ z ∈ n, z.1 < de) (hdC : de < C) (hC : (C, oC) ∈ n') (hCd : oC.IsDictOf (intKind theProg w) []) (hCs : (C == sysModules) = false) (he : ErrAt G n' e de) :
    Inv w G ⟨e, C, de, B, []⟩ [] [] g0 n' where
  expr := fun x hx => (h.mono s).expr x hx
  oids := fun x hx => let ⟨prs, a, b, d⟩ := h.oids x hx
    ⟨prs, a.asked (fun z hz _ _ => s z hz), ⟨fun p hp => let ⟨_, q, _⟩ := b p hp; Nat.lt_trans (hde _ q) hdC, d, hB⟩, b.of fun z hz hc => ⟨_, s z hz, hc⟩⟩
  cache := ⟨oC, [], hC, hCd, rfl, fun k => rfl⟩
  cne := hCs
  rows := fun x _ j hj => nomatch hj
  owninj := fun x _ y _ j hj => nomatch hj
  cnt := by
    show 0 = (G.xs.filter fun _ => false).length
    exact (congrArg List.length (List.filter_eq_nil_iff.mpr fun _ _ h => Bool.false_ne_true h)).symm
  dxlt := fun x hx => let ⟨o, q, _⟩ := h.dxin hx; hde _ q
  delt := hdC
  dlt := fun _ h => nomatch h
  dnd := List.nodup_nil
  dsd := fun _ h => nomatch h
  zin := fun _ h => nomatch h
  err := he
  pin := fun _ h => nomatch h
theorem Inv.finish {w : World} {G : Gram} {c : Mt} {g : Gh} {n : Led} (h : Inv w G c [] [] g n) : Stt G (c.B + 1) n where
  expr := h.expr
  oids := fun x hx => by
    obtain ⟨prs, a, b, d⟩ := h.oids x hx
    refine ⟨prs, a, d, ?_⟩
    cases ho : g.own x with
    | none => rw [ho] at b; exact Nat.le_succ_of_le b.2.1
    | some j => rw [ho] at b; obtain ⟨a2, D, rest, rfl, _, _, q⟩ := b; exact Nat.succ_le_succ q
def Fine (o : Obj) : Prop := o.cls = dT ∨ (∃ a, o.cls = .ref a ∧ a ≠ 87) ∨ ∃ vs k, o = tupO vs k ∧ ∀ x t, Value.str x t ∉ vs
theorem fine_refs {ms : List Addr} {k : Nat} : Fine (tupO (ms.map .ref) k) := .inr (.inr ⟨_, _, rfl, fun x t h => by obtain ⟨_, _, e⟩ := List.mem_map.mp h; cases e⟩)
theorem fine_prs {prs : Prs} {k : Nat} : Fine (tupO (prs.map fun p => .ref p.1) k) := .inr (.inr ⟨_, _, rfl, fun x t h => by obtain ⟨_, _, e⟩ := List.mem_map.mp h; cases e⟩)
theorem Stt.fine {G : Gram} {B : Nat} {n n' : Led} (h : Stt G B n) (s : ∀ z ∈ n, Fine z.2 → z ∈ n') : Stt G B n' where
  expr := fun x hx => by
    have h := h.expr x hx
    unfold ExprAt at h ⊢
    split <;> rename_i hk <;> rw [hk] at h <;> dsimp only at h
    · obtain ⟨tw, nm, nt, idt, h1⟩ := h
      exact ⟨tw, nm, nt, idt, s _ h1 (.inr (.inl ⟨_, rfl, by decide⟩))⟩
    · obtain ⟨t, k, nm, nt, idt, h1, h2⟩ := h
      exact ⟨t, k, nm, nt, idt, s _ h1 (.inr (.inl ⟨_, rfl, by decide⟩)), s _ h2 fine_refs⟩
    · obtain ⟨t, k, nm, nt, idt, h1, h2⟩ := h
      exact ⟨t, k, nm, nt, idt, s _ h1 (.inr (.inl ⟨_, rfl, by decide⟩)), s _ h2 fine_refs⟩
    · obtain ⟨t, k, nm, nt, idt, h1, h2⟩ := h
      exact ⟨t, k, nm, nt, idt, s _ h1 (.inr (.inl ⟨_, rfl, by decide⟩)), s _ h2 (fine_refs (ms := [_]))⟩
  oids := fun x hx => by
    obtain ⟨prs, a, b, d⟩ := h.oids x hx
    refine ⟨prs, ?_, b.of fun z hz hc => ⟨_, s z hz (.inl hc), hc⟩, d⟩
    rcases a with ⟨e, k, h1⟩ | ⟨hs, tk, t, k, k2, h1, h2, h3⟩
    · exact .inl ⟨e, k, s _ h1 (.inl rfl)⟩
    · refine .inr ⟨hs, tk, t, k, k2, s _ h1 (.inl rfl), s _ h2 fine_prs, fun p hp => ?_⟩
      obtain ⟨tk', k', h4⟩ := h3 p hp
      exact ⟨tk', k', s _ h4 (.inr (.inr ⟨_, _, rfl, fun x t h => by simp at h⟩))⟩
end
section
theorem off_Mm : True := by
  w_top off
  exact True.intro
theorem unr_Mm {a b : Nat} (h : a < b) : a < b := h
local macro_rules | `(tactic| k_room) => `(tactic| ((try simp only [depth_under_make, depth_under_kw, depth_in1, depth_deeper, depth_caller]); (try dsimp only [ktrTop]); (try simp only [recursionLimit]); omega))
local macro_rules | `(tactic| k_units) => `(tactic| ((try simp only [units_in1, units_deeper, Around.mark_units, units_caller]); (try dsimp only [ktrTop]); (try simp only [cLine]); omega))
local macro_rules | `(tactic| k_enter) => `(tactic| (refine' code_def ?k1 ?k2 ?k3 ?k4 ?k5 ?kA ?kF ?kK ?k6 ?k7 ?k8 ?k9 ?kB ?_ ?c2 ?c3 ?c4 ?c5; (case kA => exact rfl); (case kF => exact rfl); (case kK => first | assumption | exact rfl); (case k1 => k_asm); (case k2 => k_asm); (case k3 => k_asm); (case k4 => k_asm); (case k5 => k_asm); (case k6 => k_is); (case k7 => k_is); (case k8 => k_room); (case k9 => first | exact BindsTo.of_eq rfl | exact binds_K (by k_in) rfl (by k_is) rfl rfl rfl | fail "k_enter: no rule for these arguments"); (case c5 => decide); (case kB => exact locs rfl); (case c2 => exact rfl); (case c3 => exact rfl); (case c4 => exact rfl); k_whole; intro g' L' h' FG' F' N' B' X' T'; (try dsimp only); (try k_lift B'); (try k_fold)))
local macro_rules | `(tactic| k_all) => `(tactic| (refine ne_of_below (by assumption) ?_; first | exact Nat.le_refl _ | omega))
local macro_rules | `(tactic| k_mem) => `(tactic| first | exact List.Mem.head _ | (refine List.Mem.tail _ ?_; k_mem) | assumption)
section
variable {w : World} {A : Around} {E : Value → Shared → Prop} {s : Shared} {h₀ : Heap} {L : Addr} {m : Str → Option Value} {news : Led} {G : Gram} {x : Addr} {prs : Prs}
local macro_rules | `(tactic| walk_at "my method") => `(tactic| (k_dflt (refine' method_inst ?k1 ?k2 ?k3 ?k4 ?k5 ?k6 ?k7 ?_; (case k1 => assumption); (case k2 => assumption); (case k3 => k_inst); (case k4 => k_is); (case k5 => k_is); (case k6 => k_is); (case k7 => k_get); k_whole)))
theorem ma_method {pl : Sem Bool} {Q : Value × List Value → Shared → Prop} (X : (hd.heap_39 w.params).In h₀) (F : Fr h₀ L s.heap m) (N : News h₀ L s.heap news) (hE : ExprAt G news x) (hO : OidsAt news (G.dx x) prs)
    (h : Q (.ref 290, [.ref x]) s) : wpAny (model PySem.Challenge.rw_vj0022_01.row.prog w) A (getMethod (.ref x) (Str.ofString "match") pl) Q E s := by
  revert X; k_fill; intro X
  unfold ExprAt at hE
  split at hE
  · obtain ⟨tw, nm, nt, idt, hE⟩ := hE
    rcases hO with ⟨_, n, hO⟩ | ⟨hs, tk, t, k, n, hO, _, _⟩ <;> (walk_at "my method"; exact h)
  · obtain ⟨t, k, nm, nt, idt, hE, _⟩ := hE
    rcases hO with ⟨_, n, hO⟩ | ⟨hs, tk, t, k, n, hO, _, _⟩ <;> (walk_at "my method"; exact h)
  · obtain ⟨t, k, nm, nt, idt, hE, _⟩ := hE
    rcases hO with ⟨_, n, hO⟩ | ⟨hs, tk, t, k, n, hO, _, _⟩ <;> (walk_at "my method"; exact h)
  · obtain ⟨t, k, nm, nt, idt, hE, _⟩ := hE
    rcases hO with ⟨_, n, hO⟩ | ⟨hs, tk, t, k, n, hO, _, _⟩ <;> (walk_at "my method"; exact h)
end
end
section
theorem off_Mp : True := by
  w_top off
  exact True.intro
local macro_rules | `(tactic| walk_at "off 0") => `(tactic| fail)
local macro_rules | `(tactic| walk_at "off 1") => `(tactic| fail)
theorem unr_Mp {a b : Nat} (h : a < b) : a < b := h
local macro_rules | `(tactic| k_room) => `(tactic| ((try simp only [depth_under_make, depth_under_kw, depth_in1, depth_deeper, depth_caller]); (try dsimp only [ktrTop]); (try simp only [recursionLimit]); omega))
local macro_rules | `(tactic| k_units) => `(tactic| ((try simp only [units_in1, units_deeper, Around.mark_units, units_caller]); (try dsimp only [ktrTop]); (try simp only [cLine]); omega))
local macro_rules | `(tactic| k_enter) => `(tactic| (refine' code_def ?k1 ?k2 ?k3 ?k4 ?k5 ?kA ?kF ?kK ?k6 ?k7 ?k8 ?k9 ?kB ?_ ?c2 ?c3 ?c4 ?c5; (case kA => exact rfl); (case kF => exact rfl); (case kK => first | assumption | exact rfl); (case k1 => k_asm); (case k2 => k_asm); (case k3 => k_asm); (case k4 => k_asm); (case k5 => k_asm); (case k6 => k_is); (case k7 => k_is); (case k8 => k_room); (case k9 => first | exact BindsTo.of_eq rfl | exact binds_K (by k_in) rfl (by k_is) rfl rfl rfl | fail "k_enter: no rule for these arguments"); (case c5 => decide); (case kB => exact locs rfl); (case c2 => exact rfl); (case c3 => exact rfl); (case c4 => exact rfl); k_whole; intro g' L' h' FG' F' N' B' X' T'; (try dsimp only); (try k_lift B'); (try k_fold)))
local macro_rules | `(tactic| k_all) => `(tactic| (refine ne_of_below (by assumption) ?_; first | exact Nat.le_refl _ | omega))
local macro_rules | `(tactic| k_mem) => `(tactic| first | exact List.Mem.head _ | (refine List.Mem.tail _ ?_; k_mem) | assumption)
section
variable {w : World} {A : Around} {E : Value → Shared → Prop} {s : Shared} {h₀ : Heap} {L : Addr} {m : Str → Option Value} {news : Led} {G : Gram} {x : Addr} {prs : Prs}
local macro_rules | `(tactic| walk_at "my method") => `(tactic| (k_dflt (refine' method_inst ?k1 ?k2 ?k3 ?k4 ?k5 ?k6 ?k7 ?_; (case k1 => assumption); (case k2 => assumption); (case k3 => k_inst); (case k4 => k_is); (case k5 => k_is); (case k6 => k_is); (case k7 => k_get); k_whole)))
theorem pa_method {pl : Sem Bool} {Q : Value × List Value → Shared → Prop} (X : (hd.heap_39 w.params).In h₀) (F : Fr h₀ L s.heap m) (N : News h₀ L s.heap news) (hE : ExprAt G news x) (hO : OidsAt news (G.dx x) prs)
    (h : Q (.ref 282, [.ref x]) s) : wpAny (model PySem.Challenge.rw_vj0022_01.row.prog w) A (getMethod (.ref x) (Str.ofString "parse") pl) Q E s := by
  revert X; k_fill; intro X
  unfold ExprAt at hE
  split at hE
  · obtain ⟨tw, nm, nt, idt, hE⟩ := hE
    rcases hO with ⟨_, n, hO⟩ | ⟨hs, tk, t, k, n, hO, _, _⟩ <;> (walk_at "my method"; exact h)
  · obtain ⟨t, k, nm, nt, idt, hE, _⟩ := hE
    rcases hO with ⟨_, n, hO⟩ | ⟨hs, tk, t, k, n, hO, _, _⟩ <;> (walk_at "my method"; exact h)
  · obtain ⟨t, k, nm, nt, idt, hE, _⟩ := hE
    rcases hO with ⟨_, n, hO⟩ | ⟨hs, tk, t, k, n, hO, _, _⟩ <;> (walk_at "my method"; exact h)
  · obtain ⟨t, k, nm, nt, idt, hE, _⟩ := hE
    rcases hO with ⟨_, n, hO⟩ | ⟨hs, tk, t, k, n, hO, _, _⟩ <;> (walk_at "my method"; exact h)
end
end
section
theorem off_Lm : True := by
  w_top off
  exact True.intro
local macro_rules | `(tactic| walk_at "off 0") => `(tactic| fail)
local macro_rules | `(tactic| walk_at "off 1") => `(tactic| fail)
local macro_rules | `(tactic| walk_at "off 2") => `(tactic| fail)
local macro_rules | `(tactic| walk_at "off 3") => `(tactic| fail)
theorem unr_Lm {a b : Nat} (h : a < b) : a < b := h
local macro_rules | `(tactic| k_room) => `(tactic| ((try simp only [depth_under_make, depth_under_kw, depth_in1, depth_deeper, depth_caller]); (try dsimp only [ktrTop]); (try simp only [recursionLimit]); omega))
local macro_rules | `(tactic| k_units) => `(tactic| ((try simp only [units_in1, units_deeper, Around.mark_units, units_caller]); (try dsimp only [ktrTop]); (try simp only [cLine]); omega))
local macro_rules | `(tactic| k_enter) => `(tactic| (refine' code_def ?k1 ?k2 ?k3 ?k4 ?k5 ?kA ?kF ?kK ?k6 ?k7 ?k8 ?k9 ?kB ?_ ?c2 ?c3 ?c4 ?c5; (case kA => exact rfl); (case kF => exact rfl); (case kK => first | assumption | exact rfl); (case k1 => k_asm); (case k2 => k_asm); (case k3 => k_asm); (case k4 => k_asm); (case k5 => k_asm); (case k6 => k_is); (case k7 => k_is); (case k8 => k_room); (case k9 => first | exact BindsTo.of_eq rfl | exact binds_K (by k_in) rfl (by k_is) rfl rfl rfl | fail "k_enter: no rule for these arguments"); (case c5 => decide); (case kB => exact locs rfl); (case c2 => exact rfl); (case c3 => exact rfl); (case c4 => exact rfl); k_whole; intro g' L' h' FG' F' N' B' X' T'; (try dsimp only); (try k_lift B'); (try k_fold)))
local macro_rules | `(tactic| k_all) => `(tactic| (refine ne_of_below (by assumption) ?_; first | exact Nat.le_refl _ | omega))
local macro_rules | `(tactic| k_mem) => `(tactic| first | exact List.Mem.head _ | (refine List.Mem.tail _ ?_; k_mem) | assumption)
def DoesTop (w : World) (kd ku : Nat) (t : Sem Value) (news : Led) (R : Value → Led → Prop) : Prop :=
  ∀ (dp un : Nat) (gd : Option (List Code)) (cn : Str) (cs : Scope) (a : Addr) (ccd : Value) (cl : List (Str × Addr)) (A₀ : Around) (h₀ : Heap) (L : Addr) (m : Str → Option Value) (s : Shared)
    (loose : List Str) (mean : ExcName → Option Value) (mg mb : Str → Option Value) (Q E : Value → Shared → Prop),
    Below A₀ h₀ [] h₀ → Fr h₀ L s.heap m → (hd.heap_39 w.params).In h₀ → News h₀ L s.heap news → Top topProg loose mean mg mb h₀ → cs.kind = .function → dp + kd < 1000 → un + ku < 9900 →
    (∀ r news' h' tk', Fr h₀ L h' m → News h₀ L h' news' → R r news' → Q r { s with heap := h', toks := tk' }) →
    wpAny (model PySem.Challenge.rw_vj0022_01.row.prog w) (ktrTop dp un gd cn cs L a ccd cl []) t Q E s
local macro_rules | `(tactic| walk_at "getMethod ref") => `(tactic| (k_here; k_dflt (first
 | ((with_reducible show wpAny _ _ (getMethod _ (Str.ofString "match") _) _ _ _); refine' ma_method ?X ?F ?N ?hE ?hO ?_; (case hE => assumption); (case hO => assumption); (case X => k_asm); (case F => k_asm); (case N => k_asm))
 | ((with_reducible show wpAny _ _ (getMethod _ (Str.ofString "match_core") _) _ _ _); refine' mc_method ?X ?F ?N ?hE ?hO ?_; (case hE => assumption); (case hO => assumption); (case X => k_asm); (case F => k_asm); (case N => k_asm)))))
theorem core_use (w : World) (G : Gram) (hG : G.Ok) (c : Mt) (P : List (Addr × Nat)) (x : Addr) (p : Nat) (Z : List Addr) (g : Gh) (news : Led) (tt tp : Tok) (hP : P = []) (hx : x ∈ G.xs) (hp : p ≤ G.text.length) (hI : Inv w G c P Z g news) :
    Does w 200 1500 (call (.ref 297) [.ref x, .str G.text tt, .int p tp, .ref c.C, .ref c.e]) news (MRes w G c P Z x p g news) :=
  have hr := hG.rk x hx p hp
  (mc_all w G hG _ c P x p rfl (fun y q h => by rw [hP] at h; exact nomatch h) hx hp Z g news tt tp hI).weaken (by omega) (by omega) fun _ _ h => h
theorem core_at (w : World) (G : Gram) (hG : G.Ok) (e C de : Addr) (nB : Nat) (x : Addr) (p : Nat) (news : Led) (tt tp : Tok) (hx : x ∈ G.xs) (hp : p ≤ G.text.length) (hI : Inv w G ⟨e, C, de, nB, []⟩ [] [] g0 news) :
    Does w 200 1500 (call (.ref 297) [.ref x, .str G.text tt, .int p tp, .ref C, .ref e]) news (MRes w G ⟨e, C, de, nB, []⟩ [] [] x p g0 news) := core_use w G hG ⟨e, C, de, nB, []⟩ [] x p [] g0 news tt tp rfl hx hp hI
local macro_rules | `(tactic| walk_at "call ref") => `(tactic| (k_here; k_dflt (first
 | ((with_reducible show wpAny _ _ (call (Value.ref 87) [_]) _ _ _); refine' Does.use (pe_new _ _ _ _) ?B ?F ?X ?N ?T ?k ?d ?u ?_; (case B => k_asm); (case F => k_asm); (case X => k_asm); (case N => k_asm); (case T => k_asm); (case k => exact rfl); (case d => k_room); (case u => k_units); intro r9 n9 h9 t9 F9 N9 R9; (try dsimp only); (try k_fold); refine stop ?_)
 | ((with_reducible show wpAny _ _ (call (Value.ref 297) _) _ _ _); refine' Does.use (core_at _ _ ?hG _ _ _ _ _ _ _ _ _ ?hx ?hp ?hI) ?B ?F ?X ?N ?T ?k ?d ?u ?_; (case hI => assumption); (case hG => assumption); (case hx => assumption); (case hp => assumption); (case B => k_asm); (case F => k_asm); (case X => k_asm); (case N => k_asm); (case T => k_asm); (case k => exact rfl); (case d => k_room); (case u => k_units); intro r9 n9 h9 t9 F9 N9 R9; (try dsimp only); (try k_fold); refine stop ?_)
 | ((with_reducible show wpAny _ _ (call (Value.ref 297) _) _ _ _); refine stop ?_))))
theorem pe_cls {w : World} : ∀ h, (hd.heap_39 w.params).In h → h.get? 87 = some pe87 := fun _ X => pe_lookup X
local macro_rules | `(tactic| walk_at "exec Raise some none") => `(tactic| (k_here; k_dflt (refine' raise_name ?hh ?X ?he ?_; (case hh => exact rfl); (case X => k_in); (case he => (refine' kto_N ?N ?m; (case N => k_asm); (case m => assumption))))))
local macro_rules | `(tactic| walk_at "leaving ref") => `(tactic| (k_here; k_dflt (refine' leave_peS ?K ?F ?N ?he ?ht off_two ?_ ?hk; (case K => assumption); (case F => k_asm); (case N => k_asm); (case he => assumption); (case ht => assumption); (case hk => exact rfl); intro h5 R5 U5; (try dsimp only at R5 U5 ⊢))))
local macro_rules | `(tactic| walk_at "noteFrame ref") => `(tactic| (k_here; k_dflt (refine' caught_peS ?K ?F ?U ?R ?X ?T ?ex pe_cls ?hm ?_ ?hk ?hx ?hd ?hE; (case R => assumption); (case F => assumption); (case K => assumption); (case U => assumption); (case X => k_asm); (case T => k_asm); (case ex => k_is); (case hm => exact rfl); (case hk => exact rfl); (case hx => exact rfl); (case hd => decide); (case hE => passes_own); intro h5 g5 T5 F5 N5 B5 X5 P5)))
theorem law_matched (w : World) (G : Gram) (hG : G.Ok) (x : Addr) (p nB : Nat) (hx : x ∈ G.xs) (hp : p ≤ G.text.length) (news : Led) (tt tp : Tok) (hB : nB ≤ 900) (hS : Stt G nB news) :
    DoesTop w 300 2000 (call (.ref 560) [.ref x, .str G.text tt, .int p tp]) news fun r news' => ∃ items k l, r = .ref l ∧ (l, W.listOf (items : List Value).toArray k) ∈ news' ∧ Stt G (nB + 1) news' ∧ (∀ z ∈ news, (z.2.cls ≠ dT ∨ z.1 ∉ G.dxs) → z ∈ news') ∧
      (match G.den x p with | none => items = [] | some q => ∃ nd, items = [.ref nd] ∧ N2 G G.dxs news' nd x p q) := by
  have hE := hS.expr x hx
  obtain ⟨prs, hO, -⟩ := hS.oids x hx
  unfold DoesTop
  k_fill
  intro dp un gd cn cs a ccd cl A₀ h₀ L mm s loose mean mg mb Q E B F X N T hkk hdp hun hret
  refine wpAny_call ?_
  (refine' code_defT ?k1 ?k2 ?k3 ?k4 ?k5 ?kA ?kF ?kK ?k6 ?k7 ?k8 ?k9 ?kB ?_ ?c2 ?c3 ?c4 ?c5; (case kA => exact rfl); (case kF => exact rfl); (case kK => first | assumption | exact rfl); (case k1 => k_asm); (case k2 => k_asm); (case k3 => k_asm); (case k4 => k_asm); (case k5 => k_asm); (case k6 => k_is); (case k7 => k_is); (case k8 => k_room); (case k9 => first | exact BindsTo.of_eq rfl | exact binds_K (by k_in) rfl (by k_is) rfl rfl rfl | fail "k_enter: no rule for these arguments"); (case c5 => decide); (case kB => exact locs rfl); (case c2 => exact rfl); (case c3 => exact rfl); (case c4 => exact rfl); k_whole; intro g' L' h' FG' F' N' B' X' T'; (try dsimp only); (try k_lift B'); (try k_fold))
  k_steps
  refine unstop ?_
  rename_i r9 n9 h9 t9 F9 N9 R9
  obtain ⟨e, de, ar, e1, e2, e3, k1, k2, k3, etp, en, rfl, K9, hde, he, hdd, har, hna, hae⟩ := R9
  have S9 := hS.mono K9
  clear hE hO
  have hE := S9.expr x hx
  obtain ⟨prs1, hO, -⟩ := S9.oids x hx
  k_steps
  refine unstop ?_
  rename_i C h8 oC F8 N8 l8 lo8 hs8 fs8 hi8 fi8
  have K8 : ∀ z ∈ news, z ∈ (C, oC) :: n9 := fun z hz => .tail _ (K9 z hz)
  have I8 : Inv w G ⟨e, C, de, nB, []⟩ [] [] g0 ((C, oC) :: n9) := Stt.start hS hB K8 hde (l8 _ hdd) (.head _) hi8 lo8 ⟨ar, G.text, tt, -1, etp, .none, e1, e2, e3, k1, k2, k3, en, .tail _ he, .tail _ hdd, .inl rfl⟩
  clear hE hO hs8 fs8 hi8 fi8
  k_steps
  refine unstop ?_
  rename_i r9 n1 h9 t9 F9 N9 R9
  obtain ⟨g1, I1, S1, hR⟩ := R9
  have fin : Stt G (nB + 1) n1 := I1.finish
  have keep : ∀ z ∈ news, (z.2.cls ≠ dT ∨ z.1 ∉ G.dxs) → z ∈ n1 := fun z hz hc => S1.kept z (K8 z hz) (hc.imp id fun q hm => by
    unfold Gh.mu g0 at hm
    rcases List.mem_append.mp hm with hm | hm
    · exact q hm
    · have h1 := hde z hz
      have h2 := l8 z (K9 z hz)
      rcases List.mem_cons.mp hm with hm | hm
      · exact Nat.lt_irrefl _ (hm ▸ h1)
      · exact Nat.lt_irrefl _ (List.mem_singleton.mp hm ▸ h2))
  have hR' : Res G G.dxs n1 x p r9 := hR.map fun _ _ _ _ _ b => b.wide fun a ha => .inl (List.mem_append_left _ (List.mem_append_left _ ha))
  have he1 := S1.kept _ (.tail _ he) (.inl (ne_ref _))
  have ha1 := S1.kept _ (.tail _ har) (.inl ne_tup)
  unfold Res at hR'
  clear hR I8
  cases hd : G.den x p with
  | some q =>
    rw [hd] at hR'
    obtain ⟨nd, rfl, hN⟩ := hR'
    k_steps
    exact hret _ _ _ _ (by assumption) (by assumption) ⟨[.ref nd], _, _, rfl, .head _, fin.mono fun _ h => .tail _ h, fun z hz hc => .tail _ (keep z hz hc), by rw [hd]; exact ⟨nd, rfl, hN.map fun _ _ _ _ _ b => b.nd fun _ h _ => .tail _ h⟩⟩
  | none =>
    rw [hd] at hR'
    subst hR'
    have offE : ∀ z ∈ news, z.1 ≠ e ∧ z.1 ≠ ar := fun z hz => ⟨Nat.ne_of_lt (Nat.lt_trans (hna z hz) hae), Nat.ne_of_lt (hna z hz)⟩
    have hfine : ∀ z ∈ n1, Fine z.2 → z ∈ n1.filter (fun z => decide (z.1 ≠ e ∧ z.1 ≠ ar)) := fun z hz hf => by
      refine List.mem_filter.mpr ⟨hz, decide_eq_true ⟨fun q => ?_, fun q => ?_⟩⟩
      · rw [sameAddr N9 (a := e) (o := z.2) (q ▸ hz) he1] at hf
        rcases hf with h | ⟨a, h, h2⟩ | ⟨vs, k, h, _⟩
        · exact absurd h (ne_ref _)
        · cases h; exact h2 rfl
        · exact absurd (congrArg Obj.cls h) (fun q => nomatch q)
      · rw [sameAddr N9 (a := ar) (o := z.2) (q ▸ hz) ha1] at hf
        rcases hf with h | ⟨a, h, h2⟩ | ⟨vs, k, h, h2⟩
        · exact absurd h ne_tup
        · cases h
        · have h3 := congrArg Obj.data h
          injection h3 with h4 h5
          have h6 : [Value.str G.text tt] = vs := by simpa using h4
          exact h2 G.text tt (by rw [← h6]; exact List.Mem.head _)
    k_steps
    exact hret _ _ _ _ (by assumption) (by assumption) ⟨[], _, _, rfl, .head _, (fin.fine hfine).mono fun _ h => .tail _ h, fun z hz hc => .tail _ (List.mem_filter.mpr ⟨keep z hz hc, decide_eq_true (offE z hz)⟩), by rw [hd]⟩
end
section
theorem off_Pf : True := by
  w_top off
  exact True.intro
theorem unr_Pf {a b : Nat} (h : a < b) : a < b := h
local macro_rules | `(tactic| k_room) => `(tactic| ((try simp only [depth_under_make, depth_under_kw, depth_in1, depth_deeper, depth_caller]); (try dsimp only [ktrTop]); (try simp only [recursionLimit]); omega))
local macro_rules | `(tactic| k_units) => `(tactic| ((try simp only [units_in1, units_deeper, Around.mark_units, units_caller]); (try dsimp only [ktrTop]); (try simp only [cLine]); omega))
local macro_rules | `(tactic| k_enter) => `(tactic| (refine' code_def ?k1 ?k2 ?k3 ?k4 ?k5 ?kA ?kF ?kK ?k6 ?k7 ?k8 ?k9 ?kB ?_ ?c2 ?c3 ?c4 ?c5; (case kA => exact rfl); (case kF => exact rfl); (case kK => first | assumption | exact rfl); (case k1 => k_asm); (case k2 => k_asm); (case k3 => k_asm); (case k4 => k_asm); (case k5 => k_asm); (case k6 => k_is); (case k7 => k_is); (case k8 => k_room); (case k9 => first | exact BindsTo.of_eq rfl | exact binds_K (by k_in) rfl (by k_is) rfl rfl rfl | fail "k_enter: no rule for these arguments"); (case c5 => decide); (case kB => exact locs rfl); (case c2 => exact rfl); (case c3 => exact rfl); (case c4 => exact rfl); k_whole; intro g' L' h' FG' F' N' B' X' T'; (try dsimp only); (try k_lift B'); (try k_fold)))
local macro_rules | `(tactic| k_all) => `(tactic| (refine ne_of_below (by assumption) ?_; first | exact Nat.le_refl _ | omega))
local macro_rules | `(tactic| k_mem) => `(tactic| first | exact List.Mem.head _ | (refine List.Mem.tail _ ?_; k_mem) | assumption)
abbrev pi125 : Obj := excClassObj (Str.ofString "IncompleteParseError") (Str.ofString "IncompleteParseError") 125 124 [.ref 87] [.ref 87, .ref 31, .ref 45, .type "Exception", .type "BaseException", .type "object"] true [] [] false none none (some (.ref 109)) none (some (.str (Str.ofString "IncompleteParseError") 316)) (some (.str (Str.ofString "IncompleteParseError") 324)) (some (.bool true)) "Exception.__new__"
theorem pi_lookup {w : World} {h : Heap} (X : (hd.heap_39 w.params).In h) : h.get? 125 = some pi125 := by
  revert X; refine kf ?_; k_fill; intro _ X
  refine X _ _ ?_
  k_is
section
variable {prog : Program} {w : World} {A : Around} {E : Value → Shared → Prop} {R : Result → Shared → Prop} {h : Heap} {g : Array GenState} {d : Drawn} {t : Nat} {os : OsState}
variable {nm q : Str} {C N : Addr} {bs bm bmB : List Value} {hdct : Bool} {sn : List Str} {sub : List Value} {ab : Bool} {col : Option Bool} {dd : Option Addr} {k0 k1 k2 k3 k5 : Option Value} {B newId initId : String}
theorem check_newC {M : Model} (F : ExcBaseFacts B newId initId bmB) (hcont : (Value.ref C :: bm).contains (.type B) = true) {rest : List Value} {Q : Unit → Shared → Prop} (hC : h.get? C = some (excClassObj nm q C N bs bm hdct sn sub ab col dd k0 k1 k2 k3 k5 newId))
    (hq : Q () ⟨h, g, d, t, os⟩) : wpAny M A (checkBuiltinCall newId ⟨.ref C :: rest, []⟩) Q E ⟨h, g, d, t, os⟩ := by
  have hstar := F.noStar
  simp only [checkBuiltinCall, F.newKind, F.newSplit, F.newRow]
  repeat (first | refine wpAny_loadPart_at hC ?_ | (refine wpAny_isSubtype_exc hC ?_; rw [hcont]) | refine wpAny_staticBase_exc hC ?_ | refine wpAny_madeBy_exc hC ?_ | simp only [bne_self_eq_false, Bool.false_eq_true, if_false] | wp_step)
  exact hq
theorem exc_newC (F : ExcBaseFacts B newId initId bmB) (hcB : (Value.ref C :: bm).contains (.type B) = true) (hcA : (Value.ref C :: bm).contains (.type "AttributeError") = false) (hcN : (Value.ref C :: bm).contains (.type "NameError") = false) {rest : List Value} (hC : h.get? C = some (excClassObj nm q C N bs bm hdct sn sub ab col dd k0 k1 k2 k3 k5 newId))
    (hq : R (.ok (.ret (.ref (h.objs.size + 1)))) ⟨(h.push { cls := .type "tuple", data := .seq rest.toArray }).push
      { cls := .ref C, data := .fields #[.ref h.objs.size, .none, .none, .none, .bool false, .none] }, g, d, t, os⟩) (hrest : rest.length ≤ sizeLine) :
    codeAny (model prog w) A (.builtin newId ⟨.ref C :: rest, []⟩) R ⟨h, g, d, t, os⟩ := by
  have hends := F.ends
  refine codeAny_builtinAt F.entry ?_
  unfold Builtin.«BaseException.__new__»
  refine PySem.wpAt_bind ?_
  show PySem.wpAt _ _ _ (stack >>= _) _ _ _
  refine PySem.wpAt_bind (PySem.wpAt_stack fun p below => PySem.wpAt_of_wpAny ?_)
  wp_walk
  refine PySem.wpAt_of_wpAny ?_
  rw [F.owner]
  repeat (first | with_reducible refine wpAny_madeHere_exc F.canon hC ?_ | with_reducible refine wpAny_loadPart_at hC ?_ | (with_reducible refine wpAny_isSubtype_exc hC ?_; first | rw [hcB] | rw [hcA] | rw [hcN]) | wp_step)
  show R _ _
  rw [Heap.size_push]
  exact hq
end
end
section
theorem off_Pg : True := by
  w_top off
  exact True.intro
local macro_rules | `(tactic| walk_at "off 0") => `(tactic| fail)
theorem unr_Pg {a b : Nat} (h : a < b) : a < b := h
local macro_rules | `(tactic| k_room) => `(tactic| ((try simp only [depth_under_make, depth_under_kw, depth_in1, depth_deeper, depth_caller]); (try dsimp only [ktrTop]); (try simp only [recursionLimit]); omega))
local macro_rules | `(tactic| k_units) => `(tactic| ((try simp only [units_in1, units_deeper, Around.mark_units, units_caller]); (try dsimp only [ktrTop]); (try simp only [cLine]); omega))
local macro_rules | `(tactic| k_enter) => `(tactic| (refine' code_def ?k1 ?k2 ?k3 ?k4 ?k5 ?kA ?kF ?kK ?k6 ?k7 ?k8 ?k9 ?kB ?_ ?c2 ?c3 ?c4 ?c5; (case kA => exact rfl); (case kF => exact rfl); (case kK => first | assumption | exact rfl); (case k1 => k_asm); (case k2 => k_asm); (case k3 => k_asm); (case k4 => k_asm); (case k5 => k_asm); (case k6 => k_is); (case k7 => k_is); (case k8 => k_room); (case k9 => first | exact BindsTo.of_eq rfl | exact binds_K (by k_in) rfl (by k_is) rfl rfl rfl | fail "k_enter: no rule for these arguments"); (case c5 => decide); (case kB => exact locs rfl); (case c2 => exact rfl); (case c3 => exact rfl); (case c4 => exact rfl); k_whole; intro g' L' h' FG' F' N' B' X' T'; (try dsimp only); (try k_lift B'); (try k_fold)))
local macro_rules | `(tactic| k_all) => `(tactic| (refine ne_of_below (by assumption) ?_; first | exact Nat.le_refl _ | omega))
local macro_rules | `(tactic| k_mem) => `(tactic| first | exact List.Mem.head _ | (refine List.Mem.tail _ ?_; k_mem) | assumption)
abbrev excObj5 (a : Addr) : Obj := { cls := .ref 125, data := .fields #[.ref a, .none, .none, .none, .bool false, .none] }
section
variable {w : World} {A : Around} {E : Value → Shared → Prop} {s : Shared} {h₀ : Heap} {L : Addr} {m : Str → Option Value} {news : Led} {Q : Value → Shared → Prop}
theorem pi_call {rest : List Value} {hp : Heap} {g : Array GenState} {d : Drawn} {t : Nat} {os : OsState} {Q : Fin → Shared → Prop} (X : (hd.heap_39 w.params).In hp) (hi : findIn (hd.heap_39 w.params) (.ref 125) "__init__" = some (some (.ref 63))) (hf : typeIn (hd.heap_39 w.params) (.ref 63) = some (.type "function")) (hrest : rest.length ≤ sizeLine)
    (h : wpAny (model theProg w) A (call (.ref 63) (.ref (hp.objs.size + 1) :: rest)) (fun r s' => r = .none ∧ Q (.done (.ret (.ref (hp.objs.size + 1)))) s') E ⟨(hp.push (tupO rest 0)).push (excObj5 hp.objs.size), g, d, t, os⟩) :
    wpAny (model theProg w) A (Builtin.«type.__call__» ⟨.ref 125 :: rest, []⟩) Q E ⟨hp, g, d, t, os⟩ := by
  have hC := pi_lookup X
  have FB := PySem.F.excBase_Exception
  repeat (first | with_reducible refine wpAny_loadPart_at hC ?_ | with_reducible refine wpAny_madeBy_exc hC ?_ | wp_step)
  refine codeAny_call_builtin_code (Code.quiet_builtin _ FB.quiet) (check_newC FB (by decide) hC ?_)
  refine exc_newC FB (by decide) (by decide) (by decide) hC ?_ hrest
  show wpAny _ _ _ _ _ _
  have k : ∀ b o, hp.get? b = some o → ((hp.push (tupO rest 0)).push (excObj5 hp.objs.size)).get? b = some o := fun b o e => Heap.get?_push_of_some _ (Heap.get?_push_of_some _ e)
  have X₁ := X.keeps k
  have hC₁ := pi_lookup X₁
  have hget : ((hp.push (tupO rest 0)).push (excObj5 hp.objs.size)).get? (hp.objs.size + 1) = some (excObj5 hp.objs.size) := by heap_get
  have hcC : (Value.ref 125 :: [Value.ref 87, .ref 31, .ref 45, .type "Exception", .type "BaseException", .type "object"]).contains (.ref 125) = true := by decide
  unfold isInstance
  repeat (first | with_reducible refine wpAny_loadPart_at hget ?_ | (with_reducible refine wpAny_isSubtype_exc hC₁ ?_; rw [hcC]) | wp_step)
  show wpAny _ _ (typeLookup (.ref 125) _) _ _ _
  refine (looks_findIn X₁ hi).at ?_
  dsimp only
  refine wpAny_holding (wpAny_bind ((bind_fn X₁ _ hf).at ?_))
  refine wpAny_bind (wpAny_mono h (fun r s' hr => ?_) fun _ _ x => x)
  obtain ⟨rfl, hQ⟩ := hr
  wp_walk
  exact hQ
theorem pi_make {rest : List Value} (F : Fr h₀ L s.heap m) (N : News h₀ L s.heap news) (X₀ : (hd.heap_39 w.params).In h₀) (hrest : rest.length ≤ sizeLine)
    (h : ∀ a e h', Fr h₀ L h' m → News h₀ L h' ((e, excObj5 a) :: (a, tupO rest 0) :: news) → (∀ p ∈ news, p.1 < a) → a < e →
      wpAny (model theProg w) (A.under (.builtin "type.__call__" ⟨.ref 125 :: rest, []⟩)) (call (.ref 63) (.ref e :: rest)) (fun r s' => r = .none ∧ Q (.ref e) s') E { s with heap := h' }) :
    wpAny (model theProg w) A (call (.ref 125) rest) Q E s := by
  have hi : findIn (hd.heap_39 w.params) (.ref 125) "__init__" = some (some (.ref 63)) := by
    refine kf ?_; k_fill; intro _; k_is
  have hf : typeIn (hd.heap_39 w.params) (.ref 63) = some (.type "function") := by
    refine kf ?_; k_fill; intro _; k_is
  have X := X₀.keeps F.keep
  obtain ⟨hp, g, d, t, os⟩ := s
  have f1 := tc_lookup
  have f2 := tc_bind (.ref 125)
  have hC := pi_lookup X
  have hT : (⟨hp, g, d, t, os⟩ : Shared).TypeIs (.ref 125) "type" := ⟨_, hC, rfl⟩
  refine wpAny_call (codeAny_of_tree ?_)
  show wpAny _ _ (callAny (.ref 125) _) _ _ _
  repeat (any_goals (first | assumption | with_reducible refine wpAny_loadPart_at hC ?_ | wp_step))
  refine ⟨rfl, ?_⟩
  refine codeAny_call_builtin_at (Code.quiet_builtin _ (by decide +kernel)) entry_typeCall (wpAny_check_type_call_sub hC (pi_call X hi hf hrest ?_))
  have N1 := N.push F (tupO rest 0)
  have N2 := N1.push (F.push _) (excObj5 hp.objs.size)
  rw [Heap.size_push] at N2
  exact h hp.objs.size (hp.objs.size + 1) _ ((F.push _).push _) N2 (fun p hq => Heap.lt_size (N p hq).1) (Nat.lt_succ_self _)
end
end
section
theorem off_Ph : True := by
  w_top off
  exact True.intro
local macro_rules | `(tactic| walk_at "off 0") => `(tactic| fail)
local macro_rules | `(tactic| walk_at "off 1") => `(tactic| fail)
theorem unr_Ph {a b : Nat} (h : a < b) : a < b := h
local macro_rules | `(tactic| k_room) => `(tactic| ((try simp only [depth_under_make, depth_under_kw, depth_in1, depth_deeper, depth_caller]); (try dsimp only [ktrTop]); (try simp only [recursionLimit]); omega))
local macro_rules | `(tactic| k_units) => `(tactic| ((try simp only [units_in1, units_deeper, Around.mark_units, units_caller]); (try dsimp only [ktrTop]); (try simp only [cLine]); omega))
local macro_rules | `(tactic| k_enter) => `(tactic| (refine' code_def ?k1 ?k2 ?k3 ?k4 ?k5 ?kA ?kF ?kK ?k6 ?k7 ?k8 ?k9 ?kB ?_ ?c2 ?c3 ?c4 ?c5; (case kA => exact rfl); (case kF => exact rfl); (case kK => first | assumption | exact rfl); (case k1 => k_asm); (case k2 => k_asm); (case k3 => k_asm); (case k4 => k_asm); (case k5 => k_asm); (case k6 => k_is); (case k7 => k_is); (case k8 => k_room); (case k9 => first | exact BindsTo.of_eq rfl | exact binds_K (by k_in) rfl (by k_is) rfl rfl rfl | fail "k_enter: no rule for these arguments"); (case c5 => decide); (case kB => exact locs rfl); (case c2 => exact rfl); (case c3 => exact rfl); (case c4 => exact rfl); k_whole; intro g' L' h' FG' F' N' B' X' T'; (try dsimp only); (try k_lift B'); (try k_fold)))
local macro_rules | `(tactic| k_all) => `(tactic| (refine ne_of_below (by assumption) ?_; first | exact Nat.le_refl _ | omega))
local macro_rules | `(tactic| k_mem) => `(tactic| first | exact List.Mem.head _ | (refine List.Mem.tail _ ?_; k_mem) | assumption)
namespace EX
open Builtin Builtin.ObjectAttr
section
variable {w : World} {A : Around} {E : Value → Shared → Prop} {s : Shared} {h₀ : Heap} {L : Addr} {m : Str → Option Value} {news : Led} {Q : Value → Shared → Prop} {K : Frag} {x C : Addr} {ox od : Obj} {name : Str} {t : Tok}
theorem osaE_open4 {o1 : Option Obj} {tk : Tok} {v : Value} {a2 a3 a4 : Addr} {cd : ClassData} {R : Result → Shared → Prop} (X : K.In s.heap) (I : InstAt s.heap x ox C o1) (hc : clsIn K C = some cd) (hm : cd.mro = [.ref C, .ref a2, .ref a3, .ref a4, .type "Exception", .type "BaseException", .type "object"]) (ha : findIn K (.ref C) name = some none)
    (h : wpAny (model theProg w) A.in1 (storeInOwnDict (.ref x) (.ref C) (.str name tk) name v false)
      (fun fin s' => match fin with | .done f => R (.ok f) s' | .again c' => c'.quiet = true ∧ codeAny (model theProg w) A c' R s') (fun e s' => R (.error e) s') s) :
    codeAny (model theProg w) A (.call (.builtin "object.__setattr__") ⟨[.ref x, .str name tk, v], []⟩) R s := by
  have SF := PySem.F.store_object
  have sub : Looks (model theProg w) s.heap (isInstance (.ref x) (.type "object")) true := I.type.andThen (looks_mroIn X (by unfold mroIn; rw [hc, Option.bind_some, hm]; rfl))
  refine codeAny_call_builtin SF.slot.plain SF.entry (@check_slot (model theProg w) _ _ s "object.__setattr__" "object" "__setattr__" (.ref x) [.str name tk, v] [] _ SF.kind SF.split sub (SF.args (.ref x) (.str name tk) v) ?_)
  have hmr : Looks (model theProg w) s.heap (mroOf (.ref C)) cd.mro := (looks_clsIn X hc).andThen .now
  rw [osa_eq, refuse_eq]
  refine wpAny_bind (wpAny_bind (I.type.here (wpAny_bind (hmr.here ?_))))
  rw [hm, refuseLoop_ref, refuseLoop_ref, refuseLoop_ref, refuseLoop_ref, PySem.F.store_Exception.passes]
  refine wpAny_pure (wpAny_bind (I.type.here (wpAny_bind ((looks_findIn X ha).here (wpAny_bind (wpAny_pure ?_))))))
  exact h
/-- a store in an exception that has its dict -/
theorem exc_set4 {dx a2 a3 a4 : Addr} {v : Value} {cd : ClassData} {es es' : List DictEntry} {n n' : Nat} {pre post : Led} {Q : Unit → Shared → Prop} (F : Fr h₀ L s.heap m) (X₀ : K.In h₀) (N : News h₀ L s.heap (pre ++ (dx, dictOf es n) :: post)) (I : InstAt s.heap x ox C (some (dictOf es n))) (hd : ox.dict = some dx)
    (hs : findIn K (.ref C) "__setattr__" = some (some (.builtin "object.__setattr__"))) (hc : clsIn K C = some cd) (hm : cd.mro = [.ref C, .ref a2, .ref a3, .ref a4, .type "Exception", .type "BaseException", .type "object"]) (hh : cd.hasDict = true) (ha : findIn K (.ref C) name = some none)
    (hl : (getL name es).isSome = true) (e : (putL name (PyData.keyHash w.params name) (.str name (s.toks + 1)) v es, putN name es n) = (es', n')) (h1 : ∀ p ∈ pre, p.1 ≠ dx) (h2 : ∀ p ∈ post, p.1 ≠ dx) (hz : es'.length ≤ 1000)
    (h : ∀ h', Fr h₀ L h' m → News h₀ L h' (pre ++ (dx, dictOf es' n') :: post) → Q () { s with heap := h', toks := s.toks + 2 }) :
    wpAny (model theProg w) A (setAttr (.ref x) name v) Q E s := by
  have X := X₀.keeps F.keep
  refine set_plain X I hs (osaE_open4 (s := { s with toks := s.toks + 1 }) X I hc hm ha ?_)
  obtain ⟨hx, hcl, hn, -⟩ := I
  obtain ⟨oc, odi, oda, osl⟩ := ox
  dsimp only at hcl hd
  subst hcl hd
  refine wpAny_bind (wpAny_pure (wpAny_bind (wpAny_bind (wpAny_loadPart hx (wpAny_bind ((looks_clsIn X hc).at ?_))))))
  rw [hh]
  refine wpAny_pure (a := some dx) ?_
  exact store_led (s := { s with toks := s.toks + 1 }) F N h1 h2 hl e hz fun h' F' N' => h h' F' N'
/-- the first store in an exception: its dict is made -/
theorem exc_set14 {a2 a3 a4 : Addr} {v : Value} {cd : ClassData} {fs : Array Value} {post : Led} {Q : Unit → Shared → Prop} (F : Fr h₀ L s.heap m) (X₀ : K.In h₀) (N : News h₀ L s.heap ((x, (⟨.ref C, none, .fields fs, #[]⟩ : Obj)) :: post)) (hp : ∀ p ∈ post, p.1 ≠ x)
    (hs : findIn K (.ref C) "__setattr__" = some (some (.builtin "object.__setattr__"))) (hc : clsIn K C = some cd) (hm : cd.mro = [.ref C, .ref a2, .ref a3, .ref a4, .type "Exception", .type "BaseException", .type "object"]) (hh : cd.hasDict = true) (ha : findIn K (.ref C) name = some none)
    (h : ∀ d h', Fr h₀ L h' m → News h₀ L h' ((d, dictOf [⟨PyData.keyHash w.params name, .str name (s.toks + 1), v⟩] 1) :: (x, (⟨.ref C, some d, .fields fs, #[]⟩ : Obj)) :: post) → (∀ p ∈ post, p.1 < d) → x < d → Q () { s with heap := h', toks := s.toks + 2 }) :
    wpAny (model theProg w) A (setAttr (.ref x) name v) Q E s := by
  have X := X₀.keeps F.keep
  have hx := (N _ (.head _)).1
  have I : InstAt s.heap x ⟨.ref C, none, .fields fs, #[]⟩ C none := ⟨hx, rfl, rfl, trivial⟩
  refine set_plain X I hs (osaE_open4 (s := { s with toks := s.toks + 1 }) X I hc hm ha ?_)
  refine wpAny_bind (wpAny_pure (wpAny_bind (wpAny_bind (wpAny_loadPart hx (wpAny_bind ((looks_clsIn X hc).at ?_))))))
  rw [hh]
  have lt : ∀ p ∈ post, p.1 < s.heap.objs.size := fun p hq => Heap.lt_size (N p (.tail _ hq)).1
  have ltx : x < s.heap.objs.size := Heap.lt_size hx
  have F1 := F.push emptyDict
  have N1 := N.push F emptyDict
  obtain ⟨F2, N2⟩ := news_upd (pre := [(s.heap.objs.size, emptyDict)]) (f := fun o => { o with dict := some s.heap.objs.size }) (o' := ⟨.ref C, some s.heap.objs.size, .fields fs, #[]⟩) F1 N1 (fun p hq => by rw [List.mem_singleton.mp hq]; exact Nat.ne_of_gt ltx) hp rfl rfl
  show wpAny _ _ ((alloc emptyDict >>= _) >>= _) _ _ _
  refine wpAny_bind (wpAny_bind (wpAny_alloc (wpAny_pure (wpAny_bind (wpAny_update (Heap.get?_push_of_some _ hx) (wpAny_pure (a := some s.heap.objs.size) ?_))))))
  refine store_led (s := { s with heap := (s.heap.push emptyDict).update x fun o => { o with dict := some s.heap.objs.size }, toks := s.toks + 1 }) (pre := []) (es := []) (n := 0) F2 N2 (fun _ h => nomatch h) (fun p hq => ?_) rfl rfl (Nat.le_of_ble_eq_true rfl) fun h' F' N' => h _ h' F' N' lt ltx
  rcases List.mem_cons.mp hq with rfl | hq
  · exact Nat.ne_of_lt ltx
  · exact Nat.ne_of_lt (lt p hq)
end
end EX
local macro_rules | `(tactic| walk_at "setAttr ref") => `(tactic| (k_here; k_dflt (first
 | (refine' EX.exc_set14 ?k1 ?k2 ?k3 ?kp ?k4 ?k5 ?k6 ?k7 ?k8 ?_; (case k1 => k_asm); (case k2 => k_asm); (case k3 => k_asm); (case kp => k_all); (case k4 => k_is); (case k5 => k_is); (case k6 => rfl); (case k7 => rfl); (case k8 => k_is); intro d' h' F' N' l1 l2; (try k_lt l1); (try k_lt2 l2); (try k_sweep))
 | (refine' EX.exc_set4 (pre := []) ?k1 ?k2 ?k3 ?kI ?kd ?k4 ?k5 ?k6 ?k7 ?k8 ?kl ?ke ?kh1 ?kh2 ?kz ?_; (case k1 => k_asm); (case k2 => k_asm); (case k3 => k_asm); (case kI => (refine' exc_inst ?N ?h1 ?h2; (case N => k_asm); (case h1 => k_mem); (case h2 => k_mem))); (case kd => rfl); (case k4 => k_is); (case k5 => k_is); (case k6 => rfl); (case k7 => rfl); (case k8 => k_is); (case kl => k_get); (case ke => k_put); (case kh1 => exact fun _ h => nomatch h); (case kh2 => k_all); (case kz => exact Nat.le_of_ble_eq_true rfl); intro h' F' N'; (try dsimp only [List.nil_append] at N'); (try k_sweep)))))
theorem pi_new (w : World) (news : Led) (text : Str) (tt tq : Tok) (q : Int) (x : Addr) :
    Does w 20 100 (call (.ref 125) [.str text tt, .int q tq, .ref x]) news (fun r news' => ∃ e de a, r = .ref e ∧ (∀ z ∈ news, z ∈ news') ∧ (e, exO 125 a (some de)) ∈ news' ∧ (a, tupO [.str text tt, .int q tq, .ref x] 0) ∈ news' ∧ (∀ z ∈ news, z.1 < a) ∧ a < e) := by
  unfold Does
  k_fill
  intro dp un gd cn cs a ccd cl outer A₀ base h₀ L m s loose mean mg mb Q E B F X N T hk hdp hun hret
  refine pi_make F N X (Nat.le_of_ble_eq_true rfl) ?_
  intro a9 e9 h9 F9 N9 l1 l2
  replace l2 := ltN l2
  refine wpAny_call ?_
  k_enter
  k_steps
  refine hret _ _ _ _ (by assumption) (by assumption) ⟨e9, _, a9, rfl, fun z hz => by simp [hz], by k_mem, by k_mem, l1, ltN l2⟩
end
section
theorem off_Lw : True := by
  w_top off
  exact True.intro
local macro_rules | `(tactic| walk_at "off 0") => `(tactic| fail)
local macro_rules | `(tactic| walk_at "off 1") => `(tactic| fail)
local macro_rules | `(tactic| walk_at "off 2") => `(tactic| fail)
local macro_rules | `(tactic| walk_at "off 3") => `(tactic| fail)
theorem unr_Lw {a b : Nat} (h : a < b) : a < b := h
local macro_rules | `(tactic| k_room) => `(tactic| ((try simp only [depth_under_make, depth_under_kw, depth_in1, depth_deeper, depth_caller]); (try dsimp only [ktrTop]); (try simp only [recursionLimit]); omega))
local macro_rules | `(tactic| k_units) => `(tactic| ((try simp only [units_in1, units_deeper, Around.mark_units, units_caller]); (try dsimp only [ktrTop]); (try simp only [cLine]); omega))
local macro_rules | `(tactic| k_enter) => `(tactic| (refine' code_def ?k1 ?k2 ?k3 ?k4 ?k5 ?kA ?kF ?kK ?k6 ?k7 ?k8 ?k9 ?kB ?_ ?c2 ?c3 ?c4 ?c5; (case kA => exact rfl); (case kF => exact rfl); (case kK => first | assumption | exact rfl); (case k1 => k_asm); (case k2 => k_asm); (case k3 => k_asm); (case k4 => k_asm); (case k5 => k_asm); (case k6 => k_is); (case k7 => k_is); (case k8 => k_room); (case k9 => first | exact BindsTo.of_eq rfl | exact binds_K (by k_in) rfl (by k_is) rfl rfl rfl | fail "k_enter: no rule for these arguments"); (case c5 => decide); (case kB => exact locs rfl); (case c2 => exact rfl); (case c3 => exact rfl); (case c4 => exact rfl); k_whole; intro g' L' h' FG' F' N' B' X' T'; (try dsimp only); (try k_lift B'); (try k_fold)))
local macro_rules | `(tactic| k_all) => `(tactic| (refine ne_of_below (by assumption) ?_; first | exact Nat.le_refl _ | omega))
local macro_rules | `(tactic| k_mem) => `(tactic| first | exact List.Mem.head _ | (refine List.Mem.tail _ ?_; k_mem) | assumption)
theorem len_str9 {prog : Program} {w : World} {A : Around} {E : Value → Shared → Prop} {s : Shared} {x : Str} {t : Tok} {Q : Value → Shared → Prop} (hl : x.length ≤ 100) (h : ∀ k1 k2, Q (.int x.length k1) { s with toks := k2 }) : wpAny (model prog w) A (call (.builtin "len") [.str x t]) Q E s := P.len_str (by omega) (h _ _)
local macro_rules | `(tactic| walk_at "call builtin:len") => `(tactic| (k_here; k_dflt (refine' len_str9 ?hl ?_; (case hl => assumption); intro k8 k9; (try dsimp only); (try k_fold))))
theorem pi_cls {w : World} : ∀ h, (hd.heap_39 w.params).In h → h.get? 125 = some pi125 := fun _ X => pi_lookup X
theorem core_at0 (w : World) (G : Gram) (hG : G.Ok) (e C de : Addr) (nB : Nat) (x : Addr) (news : Led) (tt tp : Tok) (hx : x ∈ G.xs) (hI : Inv w G ⟨e, C, de, nB, []⟩ [] [] g0 news) :
    Does w 200 1500 (call (.ref 297) [.ref x, .str G.text tt, .int 0 tp, .ref C, .ref e]) news (MRes w G ⟨e, C, de, nB, []⟩ [] [] x 0 g0 news) := core_at w G hG e C de nB x 0 news tt tp hx (Nat.zero_le _) hI
local macro_rules | `(tactic| walk_at "getMethod ref") => `(tactic| (k_here; k_dflt (first
 | ((with_reducible show wpAny _ _ (getMethod _ (Str.ofString "parse") _) _ _ _); refine' pa_method ?X ?F ?N ?hE ?hO ?_; (case hE => assumption); (case hO => assumption); (case X => k_asm); (case F => k_asm); (case N => k_asm))
 | ((with_reducible show wpAny _ _ (getMethod _ (Str.ofString "match") _) _ _ _); refine' ma_method ?X ?F ?N ?hE ?hO ?_; (case hE => assumption); (case hO => assumption); (case X => k_asm); (case F => k_asm); (case N => k_asm))
 | ((with_reducible show wpAny _ _ (getMethod _ (Str.ofString "match_core") _) _ _ _); refine' mc_method ?X ?F ?N ?hE ?hO ?_; (case hE => assumption); (case hO => assumption); (case X => k_asm); (case F => k_asm); (case N => k_asm)))))
local macro_rules | `(tactic| walk_at "call ref") => `(tactic| (k_here; k_dflt (first
 | ((with_reducible show wpAny _ _ (call (Value.ref 87) [_]) _ _ _); refine' Does.use (pe_new _ _ _ _) ?B ?F ?X ?N ?T ?k ?d ?u ?_; (case B => k_asm); (case F => k_asm); (case X => k_asm); (case N => k_asm); (case T => k_asm); (case k => exact rfl); (case d => k_room); (case u => k_units); intro r9 n9 h9 t9 F9 N9 R9; (try dsimp only); (try k_fold); refine stop ?_)
 | ((with_reducible show wpAny _ _ (call (Value.ref 125) [_, _, _]) _ _ _); refine' Does.use (pi_new _ _ _ _ _ _ _) ?B ?F ?X ?N ?T ?k ?d ?u ?_; (case B => k_asm); (case F => k_asm); (case X => k_asm); (case N => k_asm); (case T => k_asm); (case k => exact rfl); (case d => k_room); (case u => k_units); intro r9 n9 h9 t9 F9 N9 R9; (try dsimp only); (try k_fold); refine stop ?_)
 | ((with_reducible show wpAny _ _ (call (Value.ref 297) _) _ _ _); refine' Does.use (core_at0 _ _ ?hG _ _ _ _ _ _ _ _ ?hx ?hI) ?B ?F ?X ?N ?T ?k ?d ?u ?_; (case hI => assumption); (case hG => assumption); (case hx => assumption); (case B => k_asm); (case F => k_asm); (case X => k_asm); (case N => k_asm); (case T => k_asm); (case k => exact rfl); (case d => k_room); (case u => k_units); intro r9 n9 h9 t9 F9 N9 R9; (try dsimp only); (try k_fold); refine stop ?_)
 | ((with_reducible show wpAny _ _ (call (Value.ref 297) _) _ _ _); refine stop ?_))))
local macro_rules | `(tactic| walk_at "exec Raise some none") => `(tactic| (k_here; k_dflt (first
 | (refine' raise_call (C := 125) (nm := Str.ofString "IncompleteParseError") (q := Str.ofString "IncompleteParseError") (N := 124) (bs := [.ref 87]) (bm := [.ref 87, .ref 31, .ref 45, .type "Exception", .type "BaseException", .type "object"]) (hdct := true) (sn := []) (sub := []) (ab := false) (col := none) (dd := none) (k0 := some (.ref 109)) (k1 := none) (k2 := some (.str (Str.ofString "IncompleteParseError") 316)) (k3 := some (.str (Str.ofString "IncompleteParseError") 324)) (k5 := some (.bool true)) (newId := "Exception.__new__") ?hb ?hh ?_; (case hb => decide); (case hh => exact rfl))
 | (refine' raise_name ?hh ?X ?he ?_; (case hh => exact rfl); (case X => k_in); (case he => (refine' kto_N ?N ?m; (case N => k_asm); (case m => assumption)))))))
local macro_rules | `(tactic| walk_at "leaving ref") => `(tactic| (k_here; k_dflt (first
 | (refine' leave_onS ?k1 ?k2 ?k3 ?k4 ?_; (case k3 => assumption); (case k2 => assumption); (case k1 => assumption); (case k4 => assumption); intro h5 R5 RK5 U5; (try dsimp only at R5 U5 ⊢))
 | (refine' leave_peS ?K ?F ?N ?he ?ht off_two ?_ ?hk; (case K => assumption); (case F => k_asm); (case N => k_asm); (case he => assumption); (case ht => assumption); (case hk => exact rfl); intro h5 R5 U5; (try dsimp only at R5 U5 ⊢)))))
local macro_rules | `(tactic| walk_at "noteFrame ref") => `(tactic| (k_here; k_dflt (first
 | (refine' caught_peS ?K ?F ?U ?R ?X ?T ?ex pi_cls ?hm ?_ ?hk ?hx ?hd ?hE; (case R => assumption); (case F => assumption); (case K => assumption); (case U => assumption); (case X => k_asm); (case T => k_asm); (case ex => k_is); (case hm => decide); (case hk => exact rfl); (case hx => exact rfl); (case hd => decide); (case hE => passes_own); intro h5 g5 T5 F5 N5 B5 X5 P5)
 | (refine' caught_peS ?K ?F ?U ?R ?X ?T ?ex pe_cls ?hm ?_ ?hk ?hx ?hd ?hE; (case R => assumption); (case F => assumption); (case K => assumption); (case U => assumption); (case X => k_asm); (case T => k_asm); (case ex => k_is); (case hm => exact rfl); (case hk => exact rfl); (case hx => exact rfl); (case hd => decide); (case hE => passes_own); intro h5 g5 T5 F5 N5 B5 X5 P5))))
theorem law_whole (w : World) (G : Gram) (hG : G.Ok) (x : Addr) (nB : Nat) (hx : x ∈ G.xs) (news : Led) (tt : Tok) (hB : nB ≤ 900) (hS : Stt G nB news) :
    DoesTop w 300 2000 (call (.ref 567) [.ref x, .str G.text tt]) news fun r news' => (∃ tk, r = .int (match G.den x 0 with | none => -1 | some q => if q = G.text.length then (q : Int) else -1) tk) ∧ ∀ z ∈ news, (z.2.cls ≠ dT ∨ z.1 ∉ G.dxs) → z ∈ news' := by
  have htl := hG.tlen
  have hE := hS.expr x hx
  obtain ⟨prs, hO, -⟩ := hS.oids x hx
  unfold DoesTop
  k_fill
  intro dp un gd cn cs a ccd cl A₀ h₀ L mm s loose mean mg mb Q E B F X N T hkk hdp hun hret
  refine wpAny_call ?_
  (refine' code_defT ?k1 ?k2 ?k3 ?k4 ?k5 ?kA ?kF ?kK ?k6 ?k7 ?k8 ?k9 ?kB ?_ ?c2 ?c3 ?c4 ?c5; (case kA => exact rfl); (case kF => exact rfl); (case kK => first | assumption | exact rfl); (case k1 => k_asm); (case k2 => k_asm); (case k3 => k_asm); (case k4 => k_asm); (case k5 => k_asm); (case k6 => k_is); (case k7 => k_is); (case k8 => k_room); (case k9 => first | exact BindsTo.of_eq rfl | exact binds_K (by k_in) rfl (by k_is) rfl rfl rfl | fail "k_enter: no rule for these arguments"); (case c5 => decide); (case kB => exact locs rfl); (case c2 => exact rfl); (case c3 => exact rfl); (case c4 => exact rfl); k_whole; intro g' L' h' FG' F' N' B' X' T'; (try dsimp only); (try k_lift B'); (try k_fold))
  k_steps
  refine unstop ?_
  rename_i r9 n9 h9 t9 F9 N9 R9
  obtain ⟨e, de, ar, e1, e2, e3, k1, k2, k3, etp, en, rfl, K9, hde, he, hdd, har, hna, hae⟩ := R9
  have S9 := hS.mono K9
  clear hE hO
  have hE := S9.expr x hx
  obtain ⟨prs1, hO, -⟩ := S9.oids x hx
  k_steps
  refine unstop ?_
  rename_i C h8 oC F8 N8 l8 lo8 hs8 fs8 hi8 fi8
  have K8 : ∀ z ∈ news, z ∈ (C, oC) :: n9 := fun z hz => .tail _ (K9 z hz)
  have I8 : Inv w G ⟨e, C, de, nB, []⟩ [] [] g0 ((C, oC) :: n9) := Stt.start hS hB K8 hde (l8 _ hdd) (.head _) hi8 lo8 ⟨ar, G.text, tt, -1, etp, .none, e1, e2, e3, k1, k2, k3, en, .tail _ he, .tail _ hdd, .inl rfl⟩
  clear hE hO hs8 fs8 hi8 fi8
  k_steps
  refine unstop ?_
  rename_i r9 n1 h9 t9 F9 N9 R9
  obtain ⟨g1, I1, S1, hR⟩ := R9
  have fin : Stt G (nB + 1) n1 := I1.finish
  have keep : ∀ z ∈ news, (z.2.cls ≠ dT ∨ z.1 ∉ G.dxs) → z ∈ n1 := fun z hz hc => S1.kept z (K8 z hz) (hc.imp id fun q hm => by
    unfold Gh.mu g0 at hm
    rcases List.mem_append.mp hm with hm | hm
    · exact q hm
    · have h1 := hde z hz
      have h2 := l8 z (K9 z hz)
      rcases List.mem_cons.mp hm with hm | hm
      · exact Nat.lt_irrefl _ (hm ▸ h1)
      · exact Nat.lt_irrefl _ (List.mem_singleton.mp hm ▸ h2))
  have hR' : Res G G.dxs n1 x 0 r9 := hR.map fun _ _ _ _ _ b => b.wide fun a ha => .inl (List.mem_append_left _ (List.mem_append_left _ ha))
  have he1 := S1.kept _ (.tail _ he) (.inl (ne_ref _))
  have ha1 := S1.kept _ (.tail _ har) (.inl ne_tup)
  unfold Res at hR'
  clear hR I8
  cases hd : G.den x 0 with
  | some q =>
    rw [hd] at hR'
    obtain ⟨nd, rfl, hN⟩ := hR'
    obtain ⟨its, ⟨ndx, nch, ntt, ntp, ntq, nk, nod, _, _, hnd1, hnd2, hnd3⟩, _⟩ := hN
    k_steps
    case _ =>
      refine unstop ?_
      rename_i r9 n9 h9 t9 F9 N9 R9
      obtain ⟨e9, d9, a9, rfl, K9, h91, h92, h93, h94⟩ := R9
      refine ⟨e9, a9, some d9, rfl, pi_lookup (by k_in), (N9 _ h91).1, ?_⟩
      k_steps
      have hlt : (q : Int) < (G.text.length : Int) := by assumption
      refine hret _ _ _ _ (by assumption) (by assumption) ⟨⟨_, by rw [hd]; dsimp only; rw [if_neg (by omega)]⟩, fun z hz hc => List.mem_filter.mpr ⟨K9 z (keep z hz hc), decide_eq_true (And.intro (Nat.ne_of_lt (Nat.lt_trans (h93 z (keep z hz hc)) h94)) (Nat.ne_of_lt (h93 z (keep z hz hc))))⟩⟩
    have hlt : ¬ (q : Int) < (G.text.length : Int) := by assumption
    have hb := hG.bound x hx 0 q (Nat.zero_le _) hd
    refine hret _ _ _ _ (by assumption) (by assumption) ⟨⟨_, by rw [hd]; dsimp only; rw [if_pos (by omega)]⟩, fun z hz hc => keep z hz hc⟩
  | none =>
    rw [hd] at hR'
    subst hR'
    k_steps
    refine hret _ _ _ _ (by assumption) (by assumption) ⟨⟨_, by rw [hd]⟩, fun z hz hc => List.mem_filter.mpr ⟨keep z hz hc, decide_eq_true (And.intro (Nat.ne_of_lt (Nat.lt_trans (hna z hz) hae)) (Nat.ne_of_lt (hna z hz)))⟩⟩
end
section
theorem off_C1 : True := by
  w_top off
  exact True.intro
theorem unr_C1 {a b : Nat} (h : a < b) : a < b := h
local macro_rules | `(tactic| k_room) => `(tactic| ((try simp only [depth_under_make, depth_under_kw, depth_in1, depth_deeper, depth_caller]); (try dsimp only [ktrTop]); (try simp only [recursionLimit]); omega))
local macro_rules | `(tactic| k_units) => `(tactic| ((try simp only [units_in1, units_deeper, Around.mark_units, units_caller]); (try dsimp only [ktrTop]); (try simp only [cLine]); omega))
local macro_rules | `(tactic| k_enter) => `(tactic| (refine' code_def ?k1 ?k2 ?k3 ?k4 ?k5 ?kA ?kF ?kK ?k6 ?k7 ?k8 ?k9 ?kB ?_ ?c2 ?c3 ?c4 ?c5; (case kA => exact rfl); (case kF => exact rfl); (case kK => first | assumption | exact rfl); (case k1 => k_asm); (case k2 => k_asm); (case k3 => k_asm); (case k4 => k_asm); (case k5 => k_asm); (case k6 => k_is); (case k7 => k_is); (case k8 => k_room); (case k9 => first | exact BindsTo.of_eq rfl | exact binds_K (by k_in) rfl (by k_is) rfl rfl rfl | fail "k_enter: no rule for these arguments"); (case c5 => decide); (case kB => exact locs rfl); (case c2 => exact rfl); (case c3 => exact rfl); (case c4 => exact rfl); k_whole; intro g' L' h' FG' F' N' B' X' T'; (try dsimp only); (try k_lift B'); (try k_fold)))
local macro_rules | `(tactic| k_all) => `(tactic| (refine ne_of_below (by assumption) ?_; first | exact Nat.le_refl _ | omega))
local macro_rules | `(tactic| k_mem) => `(tactic| first | exact List.Mem.head _ | (refine List.Mem.tail _ ?_; k_mem) | assumption)
local macro_rules | `(tactic| k_all) => `(tactic| assumption)
section
variable {prog : Program} {w : World} {A : Around} {E : Value → Shared → Prop} {s : Shared} {h₀ : Heap} {L l : Addr} {news : Led} {xs : List Value} {k : Nat} {Q : Value → Shared → Prop}
theorem len_led (N : News h₀ L s.heap news) (hm : (l, listOf xs.toArray k) ∈ news) (hf : xs.length ≤ 1000) (h : ∀ k1 k2, Q (.int xs.length k1) { s with toks := k2 }) : wpAny (model prog w) A (call (.builtin "len") [.ref l]) Q E s := by
  refine PyProof.Rows.len_list (items := xs.toArray) ⟨_, (N _ hm).1, rfl, _, rfl⟩ (by rw [List.size_toArray]; omega) ?_
  rw [List.size_toArray]
  exact h _ _
end
local macro_rules | `(tactic| walk_at "call builtin:len") => `(tactic| (k_here; k_dflt (refine' len_led ?N ?m ?f ?_; (case N => k_asm); (case m => k_mem); (case f => omega); intro k8 k9; (try dsimp only); (try k_fold))))
theorem law_next (w : World) (news : Led) (st lst : Addr) (xs : List Value) (is : List Int) (kl ks : Nat) (j : Int) (n : Int) (tj tn : Tok) (hn0 : 0 < n) (hn1 : n ≤ 100) (hs : (st, listOf #[.ref lst, .int j tj] ks) ∈ news) (hl : (lst, listOf xs.toArray kl) ∈ news) (hne : lst ≠ st)
    (hi : IntsAre xs is) (hlen : xs.length ≤ 60) (hj0 : 0 ≤ j) (hj : j ≤ 1000) :
    Does w 20 100 (call (.ref 534) [.ref st, .int n tn]) news fun r news' => ∃ v tv tj' ks', r = .int v tv ∧ 0 ≤ v ∧ v < n ∧ (st, listOf #[.ref lst, .int (j + 1) tj'] ks') ∈ news' ∧ ∀ z ∈ news, z.1 ≠ st → z ∈ news' := by
  unfold Does
  k_fill
  intro dp un gd cn cs a ccd cl outer A₀ base h₀ L m s loose mean mg mb Q E B F X N T hk hdp hun hret
  have hl' : (lst, listOf xs.toArray kl) ∈ news.filter (fun z => z.1 ≠ st) := List.mem_filter.mpr ⟨hl, decide_eq_true hne⟩
  have off := off_filter (news := news) (d := st)
  replace N := focus N hs
  generalize hg : news.filter (fun z => z.1 ≠ st) = rest at *
  refine wpAny_call ?_
  k_enter
  k_steps
  · exact hret _ _ _ _ (by assumption) (by assumption) ⟨_, _, _, _, rfl, Int.le_refl _, hn0, .head _, fun z hz hn => .tail _ (hg ▸ List.mem_filter.mpr ⟨hz, decide_eq_true hn⟩)⟩
  · exact hret _ _ _ _ (by assumption) (by assumption) ⟨_, _, _, _, rfl, Int.fmod_nonneg_of_pos _ hn0, Int.fmod_lt_of_pos _ hn0, .head _, fun z hz hn => .tail _ (hg ▸ List.mem_filter.mpr ⟨hz, decide_eq_true hn⟩)⟩
end
section
theorem off_Ci : True := by
  w_top off
  exact True.intro
theorem unr_Ci {a b : Nat} (h : a < b) : a < b := h
local macro_rules | `(tactic| k_room) => `(tactic| ((try simp only [depth_under_make, depth_under_kw, depth_in1, depth_deeper, depth_caller]); (try dsimp only [ktrTop]); (try simp only [recursionLimit]); omega))
local macro_rules | `(tactic| k_units) => `(tactic| ((try simp only [units_in1, units_deeper, Around.mark_units, units_caller]); (try dsimp only [ktrTop]); (try simp only [cLine]); omega))
local macro_rules | `(tactic| k_enter) => `(tactic| (refine' code_def ?k1 ?k2 ?k3 ?k4 ?k5 ?kA ?kF ?kK ?k6 ?k7 ?k8 ?k9 ?kB ?_ ?c2 ?c3 ?c4 ?c5; (case kA => exact rfl); (case kF => exact rfl); (case kK => first | assumption | exact rfl); (case k1 => k_asm); (case k2 => k_asm); (case k3 => k_asm); (case k4 => k_asm); (case k5 => k_asm); (case k6 => k_is); (case k7 => k_is); (case k8 => k_room); (case k9 => first | exact BindsTo.of_eq rfl | exact binds_K (by k_in) rfl (by k_is) rfl rfl rfl | fail "k_enter: no rule for these arguments"); (case c5 => decide); (case kB => exact locs rfl); (case c2 => exact rfl); (case c3 => exact rfl); (case c4 => exact rfl); k_whole; intro g' L' h' FG' F' N' B' X' T'; (try dsimp only); (try k_lift B'); (try k_fold)))
local macro_rules | `(tactic| k_all) => `(tactic| (refine ne_of_below (by assumption) ?_; first | exact Nat.le_refl _ | omega))
local macro_rules | `(tactic| k_mem) => `(tactic| first | exact List.Mem.head _ | (refine List.Mem.tail _ ?_; k_mem) | assumption)
open LCg in
section
variable {prog : Program} {w : World} {A : Around} {s : Shared} {h₀ : Heap} {L : Addr} {m : Str → Option Value} {env : Env} {elt : PySem.Expr} {x : Str} {scope : Scope} {cl : List (Str × Addr)} {S : Led → Prop} {P : Nat → Value → Prop} {Fin : List Value → Led → Prop}
def f3 (I C D : Addr) (l : Led) : Led := l.filter fun z => decide (z.1 ≠ I ∧ z.1 ≠ C ∧ z.1 ≠ D)
theorem mem_f3 {I C D : Addr} {l : Led} {z : Addr × Obj} : z ∈ f3 I C D l ↔ z ∈ l ∧ z.1 ≠ I ∧ z.1 ≠ C ∧ z.1 ≠ D := by
  unfold f3
  rw [List.mem_filter, decide_eq_true_iff]
def CPost (h₀ : Heap) (L : Addr) (m : Str → Option Value) (s : Shared) (I : Addr) (oI : Obj) (C : Addr) (oC : Obj) (D : Addr) (oD : Obj) (R : Value → Led → Prop) (y : Value) (s₂ : Shared) : Prop :=
  ∃ h' tk' all, s₂ = { s with heap := h', toks := tk' } ∧ Fr h₀ L h' m ∧ News h₀ L h' all ∧ (I, oI) ∈ all ∧ (C, oC) ∈ all ∧ (D, oD) ∈ all ∧ R y (f3 I C D all)
theorem comp_inv (J : Nat → List Value → Led → Prop) (n : Nat)
    (step : ∀ i ys news v I oI C oC D m₂ h tk (E' : Value → Shared → Prop), i < n → J i ys news → P i v → NsObj oC m₂ → m₂ x = some v → Fr h₀ L h m → News h₀ L h ((I, oI) :: (C, oC) :: (D, lst ys) :: news) → Off3 I C D news → ((@Ne Nat I C) ∧ (@Ne Nat I D) ∧ (@Ne Nat C D)) →
      wpAny (model prog w) A (eval elt (compEnvC scope cl C env)) (CPost h₀ L m s I oI C oC D (lst ys) fun y l => S l ∧ J (i + 1) (ys ++ [y]) l) E' { s with heap := h, toks := tk })
    (fin : ∀ ys news, J n ys news → Fin ys news) {ys : List Value} {news : Led} (hj : J 0 ys news) : CompRest prog w A h₀ L m env elt x scope cl s S P Fin n 0 ys news := by
  have key : ∀ k i ys news, i + k = n → J i ys news → CompRest prog w A h₀ L m env elt x scope cl s S P Fin k i ys news := by
    intro k
    induction k with
    | zero => intro i ys news e hj; exact fin _ _ (by rw [← e]; exact hj)
    | succ k ih =>
      intro i ys news e hj v I oI C oC D m₂ h tk E' hP hC hx F N off ne
      refine wpAny_mono (step i ys news v I oI C oC D m₂ h tk E' (by omega) hj hP hC hx F N off ne) (fun y s₂ h₂ => ?_) fun _ _ q => q
      obtain ⟨h', tk', all, rfl, F', N', m1, m2, m3, hS, hJ⟩ := h₂
      exact ⟨h', tk', f3 I C D all, rfl, F', fun p hp => by
        rcases List.mem_cons.mp hp with rfl | hp
        · exact N' _ m1
        · rcases List.mem_cons.mp hp with rfl | hp
          · exact N' _ m2
          · rcases List.mem_cons.mp hp with rfl | hp
            · exact N' _ m3
            · exact N' _ (mem_f3.mp hp).1, Off3.of fun p hp => (mem_f3.mp hp).2, hS, ih (i + 1) _ _ (by omega) hJ⟩
  exact key n 0 ys news (Nat.zero_add n) hj
end
end
section
theorem off_C2 : True := by
  w_top off
  exact True.intro
local macro_rules | `(tactic| walk_at "off 0") => `(tactic| fail)
local macro_rules | `(tactic| walk_at "off 1") => `(tactic| fail)
theorem unr_C2 {a b : Nat} (h : a < b) : a < b := h
local macro_rules | `(tactic| k_room) => `(tactic| ((try simp only [depth_under_make, depth_under_kw, depth_in1, depth_deeper, depth_caller]); (try dsimp only [ktrTop]); (try simp only [recursionLimit]); omega))
local macro_rules | `(tactic| k_units) => `(tactic| ((try simp only [units_in1, units_deeper, Around.mark_units, units_caller]); (try dsimp only [ktrTop]); (try simp only [cLine]); omega))
local macro_rules | `(tactic| k_enter) => `(tactic| (refine' code_def ?k1 ?k2 ?k3 ?k4 ?k5 ?kA ?kF ?kK ?k6 ?k7 ?k8 ?k9 ?kB ?_ ?c2 ?c3 ?c4 ?c5; (case kA => exact rfl); (case kF => exact rfl); (case kK => first | assumption | exact rfl); (case k1 => k_asm); (case k2 => k_asm); (case k3 => k_asm); (case k4 => k_asm); (case k5 => k_asm); (case k6 => k_is); (case k7 => k_is); (case k8 => k_room); (case k9 => first | exact BindsTo.of_eq rfl | exact binds_K (by k_in) rfl (by k_is) rfl rfl rfl | fail "k_enter: no rule for these arguments"); (case c5 => decide); (case kB => exact locs rfl); (case c2 => exact rfl); (case c3 => exact rfl); (case c4 => exact rfl); k_whole; intro g' L' h' FG' F' N' B' X' T'; (try dsimp only); (try k_lift B'); (try k_fold)))
local macro_rules | `(tactic| k_all) => `(tactic| (refine ne_of_below (by assumption) ?_; first | exact Nat.le_refl _ | omega))
local macro_rules | `(tactic| k_mem) => `(tactic| first | exact List.Mem.head _ | (refine List.Mem.tail _ ?_; k_mem) | assumption)
theorem size_up (n : Nat) : Builtin.Range.rangeSize 0 (n : Int) 1 = ((n : Nat) : Int) := by rw [rangeSize_nat]; omega
theorem small_up {n : Nat} (h : n ≤ 1000) : Builtin.Range.small 0 (n : Int) 1 = true := small_one (by omega) (by omega) (by omega) (by omega)
local macro_rules | `(tactic| k_enter) => `(tactic| (refine' code_defC ?k1 ?k2 ?k3 ?k4 ?k5 ?kA ?kF ?kK ?k6 ?k7 ?k8 ?k9 ?kB ?kD ?_ ?c2 ?c3 ?c4; (case kA => exact rfl); (case kF => exact rfl); (case kK => first | assumption | exact rfl); (case k1 => k_asm); (case k2 => k_asm); (case k3 => k_asm); (case k4 => k_asm); (case k5 => k_asm); (case k6 => k_is); (case k7 => k_is); (case k8 => k_room); (case k9 => first | exact BindsTo.of_eq rfl | exact binds_K (by k_in) rfl (by k_is) rfl rfl rfl | fail "k_enter: no rule for these arguments"); (case kB => exact rfl); (case kD => decide +kernel); (case c2 => exact rfl); (case c3 => exact rfl); (case c4 => exact rfl); k_whole; intro g' L' h' tk' cells' FG' F' N' Y' B' X' T' l1; (try k_lt l1); k_cells Y'; (try simp only [List.cons_append, List.nil_append] at N'); (try dsimp only); (try k_lift B'); (try k_fold)))
local macro_rules | `(tactic| walk_at "eval ListComp") => `(tactic| (refine stop ?_))
local macro_rules | `(tactic| walk_at "CompSrc") => `(tactic| (refine stop ?_))
local macro_rules | `(tactic| walk_at "call ref") => `(tactic| (k_here; k_dflt (first
 | ((with_reducible show wpAny _ _ (call (Value.ref 534) [_, _]) _ _ _); refine' Does.use (law_next _ _ _ _ _ _ _ _ _ _ _ _ ?n0 ?n1 ?hs ?hl ?hne ?hi ?hlen ?hj0 ?hj) ?B ?F ?X ?N ?T ?k ?d ?u ?_; (case N => k_asm); (case hi => assumption); (case hs => k_mem); (case hl => k_mem); (case hne => assumption); (case n0 => decide); (case n1 => decide); (case hlen => assumption); (case hj0 => omega); (case hj => omega); (case B => k_asm); (case F => k_asm); (case X => k_asm); (case T => k_asm); (case k => first | assumption | exact rfl); (case d => k_room); (case u => k_units); intro r9 n9 h9 t9 F9 N9 R9; (try dsimp only); (try k_fold); refine stop ?_)
 | ((with_reducible show wpAny _ _ (call (Value.ref 534) [_, _]) _ _ _); refine stop ?_))))
def LN (st lst : Addr) (xs : List Value) (kl : Nat) (j : Int) (news : Led) : Prop := lst ≠ st ∧ (lst, listOf xs.toArray kl) ∈ news ∧ ∃ tj ks, (st, listOf #[.ref lst, .int j tj] ks) ∈ news
theorem strs_of : ∀ ys : List Value, (∀ y ∈ ys, ∃ t tt, y = .str t tt ∧ t.length = 1) → ∃ zs : List Str, StrsAre ys zs ∧ zs.length = ys.length ∧ ∀ a ∈ zs, a.length = 1
  | [], _ => ⟨[], .nil, rfl, fun _ h => nomatch h⟩
  | y :: ys, h => by
    obtain ⟨t, tt, rfl, h1⟩ := h y (.head _)
    obtain ⟨zs, a, b, c⟩ := strs_of ys fun y hy => h y (.tail _ hy)
    exact ⟨t :: zs, .cons t tt a, congrArg (· + 1) b, fun a ha => (List.mem_cons.mp ha).elim (fun e => e ▸ h1) (c a)⟩
theorem sum_ones : ∀ zs : List Str, (∀ a ∈ zs, a.length = 1) → (zs.map (·.length)).sum = zs.length
  | [], _ => rfl
  | z :: zs, h => by rw [List.map_cons, List.sum_cons, h z (.head _), sum_ones zs fun a ha => h a (.tail _ ha), List.length_cons]; omega
theorem law_letters (w : World) (news : Led) (st lst : Addr) (xs : List Value) (is : List Int) (kl : Nat) (j : Int) (n : Nat) (tn : Tok) (hn : n ≤ 10) (hL : LN st lst xs kl j news)
    (hi : IntsAre xs is) (hlen : xs.length ≤ 60) (hj0 : 0 ≤ j) (hj : j ≤ 900) :
    Does w 40 200 (call (.ref 539) [.ref st, .int n tn]) news fun r news' => ∃ t tt, r = .str t tt ∧ t.length = n ∧ LN st lst xs kl (j + n) news' ∧ ∀ z ∈ news, z.1 ≠ st → z ∈ news' := by
  unfold Does
  k_fill
  intro dp un gd cn cs a ccd cl outer A₀ base h₀ L m s loose mean mg mb Q E B F X N T hk hdp hun hret
  refine wpAny_call ?_
  k_enter
  rename_i g1 Lc h1 tk1 FG1 F1 B1 X1 T1 l1 oc dC0 N1
  have dC : oc.data = .cell (some (.ref st)) := dC0
  k_steps
  refine unstop ?_
  k_dflt (refine LCg.ListComp_U (F₀ := by k_asm) (by with_unfolding_all rfl) (by decide) (by rfl) (by decide) (by rfl) ?_)
  k_steps
  refine unstop ?_
  refine LCg.CompSrc.range (n := n) (by rfl) (by k_asm) (by k_asm) (by assumption) (small_up (by omega)) (size_up n) (by rw [sizeLine_eq]; omega) ?_
  intro g
  obtain ⟨hne, hl, tj, ks, hs⟩ := hL
  refine comp_inv (fun i ys l => (Lc + 1, oc) ∈ l ∧ LN st lst xs kl (j + i) l ∧ (∀ z ∈ news, z.1 ≠ st → z ∈ l) ∧ ys.length = i ∧ ∀ y ∈ ys, ∃ t tt, y = .str t tt ∧ t.length = 1) n ?_ ?_ ⟨.head _, ⟨hne, .tail _ hl, tj, ks, by rw [Int.natCast_zero, Int.add_zero]; exact .tail _ hs⟩, fun z hz _ => .tail _ hz, rfl, fun _ h => nomatch h⟩
  · intro i ys l v I oI C oC D m₂ h tk E' hi' hJ hP hC hx F' N' off ne'
    obtain ⟨j1, ⟨j2, j3, tj2, ks2, j4⟩, j5, j6, j7⟩ := hJ
    k_steps
    refine unstop ?_
    rename_i r9 n9 h9 t9 F9 N9 R9
    obtain ⟨v0, tv, tj3, ks3, rfl, v1, v2, m1, m2⟩ := R9
    k_steps
    have om := off.mem
    have up : ∀ z ∈ l, z.1 ≠ st → z ∈ f3 I C D n9 := fun z hz hn => mem_f3.mpr ⟨m2 z (.tail _ (.tail _ (.tail _ hz))) hn, om z hz⟩
    have o4 := om _ j4
    refine ⟨_, _, n9, rfl, F9, N9, m2 _ (.head _) (Ne.symm o4.1), m2 _ (.tail _ (.head _)) (Ne.symm o4.2.1), m2 _ (.tail _ (.tail _ (.head _))) (Ne.symm o4.2.2), trivial, up _ j1 (Ne.symm (Nat.ne_of_lt (Nat.lt_succ_of_lt (l1 _ hs)))), ⟨hne, up _ j3 hne, tj3, ks3, mem_f3.mpr ⟨?_, o4⟩⟩, fun z hz hn => up z (j5 z hz hn) hn, by rw [List.length_append, j6]; rfl, fun y hy => ?_⟩
    · rw [show j + ((i + 1 : Nat) : Int) = j + (i : Int) + 1 by omega]; exact m1
    · rcases List.mem_append.mp hy with hy | hy
      · exact j7 y hy
      · exact ⟨_, _, List.mem_singleton.mp hy, by assumption⟩
  · intro ys l hJ
    obtain ⟨j1, ⟨j2, j3, tj2, ks2, j4⟩, j5, j6, j7⟩ := hJ
    obtain ⟨zs, hz, hzl, hz1⟩ := strs_of ys j7
    k_steps
    rename_i D9 h9 t9 F9 N9 O9
    refine join_listW (ys := zs) ⟨_, (N9 _ (.head _)).1, rfl, _, rfl⟩ hz (by decide) (by rw [sum_ones zs hz1]; omega) fun t' k' => ?_
    k_steps
    refine hret _ _ _ _ (by assumption) (by assumption) ⟨_, _, rfl, by rw [KT.join_ones zs hz1, hzl, j6], ⟨j2, .tail _ j3, tj2, ks2, .tail _ j4⟩, fun z hz hn => .tail _ (j5 z hz hn)⟩
end
section
theorem off_Sp : True := by
  w_top off
  exact True.intro
theorem unr_Sp {a b : Nat} (h : a < b) : a < b := h
local macro_rules | `(tactic| k_room) => `(tactic| ((try simp only [depth_under_make, depth_under_kw, depth_in1, depth_deeper, depth_caller]); (try dsimp only [ktrTop]); (try simp only [recursionLimit]); omega))
local macro_rules | `(tactic| k_units) => `(tactic| ((try simp only [units_in1, units_deeper, Around.mark_units, units_caller]); (try dsimp only [ktrTop]); (try simp only [cLine]); omega))
local macro_rules | `(tactic| k_enter) => `(tactic| (refine' code_def ?k1 ?k2 ?k3 ?k4 ?k5 ?kA ?kF ?kK ?k6 ?k7 ?k8 ?k9 ?kB ?_ ?c2 ?c3 ?c4 ?c5; (case kA => exact rfl); (case kF => exact rfl); (case kK => first | assumption | exact rfl); (case k1 => k_asm); (case k2 => k_asm); (case k3 => k_asm); (case k4 => k_asm); (case k5 => k_asm); (case k6 => k_is); (case k7 => k_is); (case k8 => k_room); (case k9 => first | exact BindsTo.of_eq rfl | exact binds_K (by k_in) rfl (by k_is) rfl rfl rfl | fail "k_enter: no rule for these arguments"); (case c5 => decide); (case kB => exact locs rfl); (case c2 => exact rfl); (case c3 => exact rfl); (case c4 => exact rfl); k_whole; intro g' L' h' FG' F' N' B' X' T'; (try dsimp only); (try k_lift B'); (try k_fold)))
local macro_rules | `(tactic| k_all) => `(tactic| (refine ne_of_below (by assumption) ?_; first | exact Nat.le_refl _ | omega))
local macro_rules | `(tactic| k_mem) => `(tactic| first | exact List.Mem.head _ | (refine List.Mem.tail _ ?_; k_mem) | assumption)
open PyProof.V
section
variable {prog : Program} {w : World} {A₀ A : Around} {s : Shared} {base h₀ : Heap} {outer : List Env} {L : Addr} {m mg mb : Str → Option Value} {env : Env} {news : List (Addr × Obj)} {K : Frag} {p : Program} {loose : List Str} {mean : ExcName → Option Value}
  {R : Result → Shared → Prop} {name qual : Str} {params : Arguments} {body : List Stmt} {scope : Scope} {cl : List (Str × Addr)} {dV kV doc pm cdv ct oc : Value} {an od : Option Addr} {osl : Array (Option Value)} {f : Addr} {args : Args} {binds : List (Str × Value)}
/-- a frame of a def that asks super(): its binds are made -/
theorem sp_frame {E : Value → Shared → Prop} (B : Below A₀ base outer h₀) (F : Fr h₀ L s.heap m) (N : News h₀ L s.heap news) (hlim : h₀.NoLimit) (hA : A.frames = some (env :: outer)) (hf : env.frame = some L) (hke : env.scope.kind = .function)
    (hloc : ∀ y ∈ binds, scope.names.lookup y.1 = some .local)
    (h : ∀ g L' h₁, Fr h₀ L g m → Fr g L' h₁ (fun y => binds.reverse.lookup y) → News g L' h₁ news → Below A base (env :: outer) g → h₀.StaysIn g → (∀ p ∈ news, p.1 < L') →
      _root_.PySem.wpAt (model prog w) (A.deeper (envX qual scope L' f cdv cl)) (.func body (envX qual scope L' f cdv cl)) (execs body (envX qual scope L' f cdv cl))
        (fun fl s' => LeaveK h₀ L m g R (match fl with | .ret v => v | _ => .none) s')
        (fun e s' => wpAny (model prog w) (A.deeper (envX qual scope L' f cdv cl)) (leaving (envX qual scope L' f cdv cl) e) (fun _ s'' => R (.error e) s'') (fun e' s'' => R (.error e') s'') s')
        { s with heap := h₁, toks := s.toks + binds.length })
    (hcell : ∀ x ∈ scope.names, x.2 ≠ .cell) (hk : scope.kind = .function) :
    wpAny (model prog w) A.in1 (newFunctionEnv scope mainGlobals cl binds (qual ++ ".<locals>.") (some f) cdv none builtinsNs) (fun env' s₂ => s₂.heap.NoLimit ∧ codeAny (model prog w) A (.func body env') R s₂) E s := by
  obtain ⟨FG, BG, st, lv⟩ := groundX (R := R) B F N hA hf hke
  refine wpAny_newFunctionEnv hcell hloc (fun h₁ hns hsb => ⟨(hlim.keeps F.keep).fresh _ hsb, ks_codeAny_funcAt ?_⟩) hk
  have hk₁ : ∀ b o, s.heap.get? b = some o → h₁.get? b = some o := fun b o e => hsb.extBut b o (Nat.ne_of_lt (Heap.lt_size e)) (Heap.get?_push_of_some _ e)
  exact ks_wpAt_mono (h _ s.heap.objs.size h₁ FG ⟨hns, fun b o e => hk₁ b o (of_hideAll _ e), Nat.le_of_eq (hideAll_size _ _)⟩
    (fun p hp => ⟨hk₁ _ _ (N p hp).1, Nat.ne_of_lt (Heap.lt_size (N p hp).1), hideAll_none _ (List.mem_map_of_mem hp)⟩) BG st (fun p hp => Heap.lt_size (N p hp).1)) (fun fl s' hl => lv _ _ hl) fun _ _ y => y

theorem sp_both {vs : List Value} {nm nr : Str} {ex front : List (Str × Value)} {DD : List (PyData × PyData)} {g₁ : Addr → Sem (List (Str × Value))} {g₂ : Addr → Addr → Sem (List (Str × Value))}
    (B : Below A₀ base outer h₀) (F : Fr h₀ L s.heap m) (X₀ : K.In h₀) (N : News h₀ L s.heap news) (T : Top p loose mean mg mb h₀) (hA : A.frames = some (env :: outer)) (hf : env.frame = some L) (hke : env.scope.kind = .function)
    (ho : K.lookup f = some ⟨oc, od, .func (fnX name qual params body scope cl dV kV doc pm an cdv ct), osl⟩) (hcd : codeIn K cdv qual = true) (hroom : A.depth < recursionLimit)
    (_hv : args.pos.drop (params.posonlyargs.length + params.args.length) = vs) (_hx : args.kw.filter (fun x => !ownKw params x.1) = ex) (hn : kwDistinct ex = true) (hD : FlatPairs PyData.str ex DD)
    (hp : peekA K ⟨prog, w.params⟩ (bindArgs (fnX name qual params body scope cl dV kV doc pm an cdv ct) args) = some (({ cls := .type "tuple", data := .seq vs.toArray } : Obj), g₁))
    (hp₂ : ∀ D, peekA K ⟨prog, w.params⟩ (g₁ D) = some (dictOf [] 0, g₂ D))
    (hk₂ : ∀ C D, g₂ C D = (forIn ex PUnit.unit (fun x _ => (nsSet D x.1 x.2 >>= fun _ => pure (ForInStep.yield PUnit.unit))) >>= fun _ => pure (front ++ [(nr, Value.ref C)] ++ [(nm, Value.ref D)])))
    (hloc : ∀ C D, ∀ y ∈ front ++ [(nr, Value.ref C)] ++ [(nm, Value.ref D)], scope.names.lookup y.1 = some .local)
    (h : ∀ C D o g L' h₁ tk, (∀ p ∈ news, p.1 < C) → C < D → (D == sysModules) = false → o.IsDictOf (strKind prog w) ex → FlatPairs PyData.str ex DD → Fr h₀ L g m → Fr g L' h₁ (fun y => (front ++ [(nr, Value.ref C)] ++ [(nm, Value.ref D)]).reverse.lookup y) →
      News g L' h₁ ((D, o) :: (C, ({ cls := .type "tuple", data := .seq vs.toArray } : Obj)) :: news) → Below A base (env :: outer) g → K.In g → Top p loose mean mg mb g → (∀ p ∈ ((D, o) :: (C, ({ cls := .type "tuple", data := .seq vs.toArray } : Obj)) :: news), p.1 < L') →
      _root_.PySem.wpAt (model prog w) (A.deeper (envX qual scope L' f cdv cl)) (.func body (envX qual scope L' f cdv cl)) (execs body (envX qual scope L' f cdv cl))
        (fun fl s' => LeaveK h₀ L m g R (match fl with | .ret v => v | _ => .none) s')
        (fun e s' => wpAny (model prog w) (A.deeper (envX qual scope L' f cdv cl)) (leaving (envX qual scope L' f cdv cl) e) (fun _ s'' => R (.error e) s'') (fun e' s'' => R (.error e') s'') s')
        { s with heap := h₁, toks := tk })
    (hco : scope.isCoroutine = false) (hgen : scope.isGenerator = false) (hk : scope.kind = .function)
    (hcell : ∀ x ∈ scope.names, x.2 ≠ .cell) : codeAny (model prog w) A (.call (.ref f) args) R s := by
  have hn' := kwDistinct_nodup hn
  refine codeAny_call_function (fd := fnX name qual params body scope cl dV kV doc pm an cdv ct) (body := body) hroom ((X₀.keeps F.keep) _ _ ho) rfl hco hgen rfl (codeRec_of (X₀.keeps F.keep) hcd) ?_
  refine wp_of_peekA (o := ({ cls := .type "tuple", data := .seq vs.toArray } : Obj)) F N (X₀.keeps F.keep) rfl _ g₁ hp fun h' F' N' l => ?_
  refine wp_of_peekA (s := { s with heap := h' }) (o := dictOf [] 0) F' N' (X₀.keeps F'.keep) rfl _ (g₂ s.heap.objs.size) (hp₂ _) fun h'' F'' N'' l' => ?_
  rw [hk₂]
  refine wpAny_bind (kp_fill ex { s with heap := h'' } [] 0 F'' N'' (fun p hp => Nat.ne_of_lt (l' p hp)) (fun _ he => nomatch he) (fun _ he => nomatch he) hn' fun h₃ F₃ N₃ => wpAny_pure ?_)
  exact sp_frame (cl := cl) (s := { s with heap := h₃, toks := s.toks + ex.length }) B F₃ N₃ T.nolimit hA hf hke (hloc _ _)
    (fun g L' h₁ FG FL NG BG st l9 => h _ _ _ g L' h₁ _ l (l' _ (.head _)) (F'.notModules (modules_low T.nolimit)) (kp_isDict s.toks (0 + ex.length) hn') hD FG FL NG BG (X₀.keeps st) (T.keeps st) l9) hcell hk

theorem sp_more {nm : Str} {ex front : List (Str × Value)} {DD : List (PyData × PyData)} {g₁ : Addr → Sem (List (Str × Value))}
    (B : Below A₀ base outer h₀) (F : Fr h₀ L s.heap m) (X₀ : K.In h₀) (N : News h₀ L s.heap news) (T : Top p loose mean mg mb h₀) (hA : A.frames = some (env :: outer)) (hf : env.frame = some L) (hke : env.scope.kind = .function)
    (ho : K.lookup f = some ⟨oc, od, .func (fnX name qual params body scope cl dV kV doc pm an cdv ct), osl⟩) (hcd : codeIn K cdv qual = true) (hroom : A.depth < recursionLimit)
    (_hx : args.kw.filter (fun x => !ownKw params x.1) = ex) (hn : kwDistinct ex = true) (hD : FlatPairs PyData.str ex DD)
    (hp : peekA K ⟨prog, w.params⟩ (bindArgs (fnX name qual params body scope cl dV kV doc pm an cdv ct) args) = some (dictOf [] 0, g₁))
    (hk₁ : ∀ D, g₁ D = (forIn ex PUnit.unit (fun x _ => (nsSet D x.1 x.2 >>= fun _ => pure (ForInStep.yield PUnit.unit))) >>= fun _ => pure (front ++ [(nm, Value.ref D)])))
    (hloc : ∀ D, ∀ y ∈ front ++ [(nm, Value.ref D)], scope.names.lookup y.1 = some .local)
    (h : ∀ D o g L' h₁ tk, (∀ p ∈ news, p.1 < D) → (D == sysModules) = false → o.IsDictOf (strKind prog w) ex → FlatPairs PyData.str ex DD → Fr h₀ L g m → Fr g L' h₁ (fun y => (front ++ [(nm, Value.ref D)]).reverse.lookup y) → News g L' h₁ ((D, o) :: news) → Below A base (env :: outer) g → K.In g → Top p loose mean mg mb g → (∀ p ∈ ((D, o) :: news), p.1 < L') →
      _root_.PySem.wpAt (model prog w) (A.deeper (envX qual scope L' f cdv cl)) (.func body (envX qual scope L' f cdv cl)) (execs body (envX qual scope L' f cdv cl))
        (fun fl s' => LeaveK h₀ L m g R (match fl with | .ret v => v | _ => .none) s')
        (fun e s' => wpAny (model prog w) (A.deeper (envX qual scope L' f cdv cl)) (leaving (envX qual scope L' f cdv cl) e) (fun _ s'' => R (.error e) s'') (fun e' s'' => R (.error e') s'') s')
        { s with heap := h₁, toks := tk })
    (hco : scope.isCoroutine = false) (hgen : scope.isGenerator = false) (hk : scope.kind = .function)
    (hcell : ∀ x ∈ scope.names, x.2 ≠ .cell) : codeAny (model prog w) A (.call (.ref f) args) R s := by
  have hn' := kwDistinct_nodup hn
  refine codeAny_call_function (fd := fnX name qual params body scope cl dV kV doc pm an cdv ct) (body := body) hroom ((X₀.keeps F.keep) _ _ ho) rfl hco hgen rfl (codeRec_of (X₀.keeps F.keep) hcd) ?_
  refine wp_of_peekA (o := dictOf [] 0) F N (X₀.keeps F.keep) rfl _ g₁ hp fun h' F' N' l => ?_
  rw [hk₁]
  refine wpAny_bind (kp_fill ex { s with heap := h' } [] 0 F' N' (fun p hp => Nat.ne_of_lt (l p hp)) (fun _ he => nomatch he) (fun _ he => nomatch he) hn' fun h'' F'' N'' => wpAny_pure ?_)
  exact sp_frame (cl := cl) (s := { s with heap := h'', toks := s.toks + ex.length }) B F'' N'' T.nolimit hA hf hke (hloc _)
    (fun g L' h₁ FG FL NG BG st l9 => h _ _ g L' h₁ _ l (F.notModules (modules_low T.nolimit)) (kp_isDict s.toks (0 + ex.length) hn') hD FG FL NG BG (X₀.keeps st) (T.keeps st) l9) hcell hk
end
end
section
theorem off_Sq : True := by
  w_top off
  exact True.intro
theorem unr_Sq {a b : Nat} (h : a < b) : a < b := h
local macro_rules | `(tactic| k_room) => `(tactic| ((try simp only [depth_under_make, depth_under_kw, depth_in1, depth_deeper, depth_caller]); (try dsimp only [ktrTop]); (try simp only [recursionLimit]); omega))
local macro_rules | `(tactic| k_units) => `(tactic| ((try simp only [units_in1, units_deeper, Around.mark_units, units_caller]); (try dsimp only [ktrTop]); (try simp only [cLine]); omega))
local macro_rules | `(tactic| k_enter) => `(tactic| (refine' code_def ?k1 ?k2 ?k3 ?k4 ?k5 ?kA ?kF ?kK ?k6 ?k7 ?k8 ?k9 ?kB ?_ ?c2 ?c3 ?c4 ?c5; (case kA => exact rfl); (case kF => exact rfl); (case kK => first | assumption | exact rfl); (case k1 => k_asm); (case k2 => k_asm); (case k3 => k_asm); (case k4 => k_asm); (case k5 => k_asm); (case k6 => k_is); (case k7 => k_is); (case k8 => k_room); (case k9 => first | exact BindsTo.of_eq rfl | exact binds_K (by k_in) rfl (by k_is) rfl rfl rfl | fail "k_enter: no rule for these arguments"); (case c5 => decide); (case kB => exact locs rfl); (case c2 => exact rfl); (case c3 => exact rfl); (case c4 => exact rfl); k_whole; intro g' L' h' FG' F' N' B' X' T'; (try dsimp only); (try k_lift B'); (try k_fold)))
local macro_rules | `(tactic| k_all) => `(tactic| (refine ne_of_below (by assumption) ?_; first | exact Nat.le_refl _ | omega))
local macro_rules | `(tactic| k_mem) => `(tactic| first | exact List.Mem.head _ | (refine List.Mem.tail _ ?_; k_mem) | assumption)
section
variable {prog : Program} {w : World} {M : Model} {A : Around} {E : Value → Shared → Prop} {s : Shared} {h₀ : Heap} {L : Addr} {m mg mb : Str → Option Value} {news : List (Addr × Obj)} {K : Frag}
theorem merge_empty {d kd : Addr} {o1 o2 : Obj} {n1 n2 : Nat} {Q : Unit → Shared → Prop} (hkd : s.heap.get? kd = some o1) (hc : o1.cls = .type "dict") (e1 : o1.data = .dict #[] n1) (hd : s.heap.get? d = some o2) (e2 : o2.data = .dict #[] n2) (hsm : (kd == sysModules) = false) (hq : Q () s) :
    wpAny M A (mergeMapping d (.ref kd) true) Q E s := by
  have hT : s.TypeIs (.ref kd) "dict" := ⟨_, hkd, hc⟩
  unfold mergeMapping
  refine wpAny_bind (wpAny_bind (wpAny_typeOf hT (wpAny_of_eq isSubtype_dict_dict ?_)))
  rw [if_pos rfl]
  refine wpAny_bind (wpAny_specialOf hT F.slot_dict_iter.lookup (wpAny_bind (wpAny_pure ?_)))
  rw [show (some (Value.builtin "dict.__iter__") == some (Value.builtin "dict.__iter__")) = true from by decide]
  dsimp only
  rw [hsm]
  simp only [Bool.false_eq_true, if_false]
  refine wpAny_bind (wpAny_dictEntries hd e2 ?_)
  simp only [Array.isEmpty_empty, if_true]
  refine wpAny_bind (wpAny_dictEntries hkd e1 ?_)
  rw [show (forIn (#[] : Array DictEntry) PUnit.unit _ : Sem PUnit) = pure PUnit.unit from by simp]
  refine wpAny_bind (wpAny_pure (wpAny_bind ?_))
  refine wpAny_dictEntries hkd e1 ?_
  refine wpAny_bind (wpAny_dictEpoch hkd e1 ?_)
  rw [show (#[] : Array DictEntry).size = 0 from rfl, show List.range 0 = [] from rfl, List.forIn_nil]
  exact wpAny_bind (wpAny_pure (wpAny_pure hq))
theorem kw_none {f : Value} {d : Addr} {o2 : Obj} {n2 : Nat} {Q : List (Str × Value) → Shared → Prop} (hd : s.heap.get? d = some o2) (e2 : o2.data = .dict #[] n2) (hq : Q [] s) : wpAny M A (keywordsIn f d) Q E s := by
  unfold keywordsIn
  refine wpAny_bind (wpAny_dictEntries hd e2 ?_)
  rw [show (forIn (#[] : Array DictEntry) ([] : List (Str × Value)) _ : Sem _) = pure [] from by simp]
  exact wpAny_bind (wpAny_pure (wpAny_pure hq))
theorem merged_shape {merge : Value → Sem Unit} {group : List (Str × Sem Value) → Sem Unit} {let_go : Value → Sem Unit} {x : Sem Value} {Q : Unit → Shared → Prop} (hg : ∀ s : Shared, ∀ Q' : Unit → Shared → Prop, Q' () s → wpAny M A (group []) Q' E s)
    (h : wpAny M A x (fun v s₁ => wpAny M A (merge v) Q (fun _ _ => False) s₁) E s) :
    wpAny M A (do
        let mut g : List (Str × Sem Value) := []
        for (name, x) in [((none : Option Str), x)] do
          match name with
          | some n => g := g ++ [(n, x)]
          | none =>
            group g
            g := []
            (merge (← x)).onRaise let_go
        group g) Q E s := by
  refine wpAny_bind ?_
  rw [List.forIn_cons]
  refine wpAny_bind (wpAny_bind (hg _ _ (wpAny_bind (wpAny_mono h (fun v s₁ h₁ => ?_) fun _ _ q => q))))
  refine wpAny_bind (wpAny_onRaise (wpAny_mono h₁ (fun _ s₂ h₂ => ?_) fun _ _ q => q.elim))
  refine wpAny_pure ?_
  dsimp only
  rw [List.forIn_nil]
  exact wpAny_pure (hg _ _ h₂)
theorem merged_empty {f : Value} {x : Sem Value} {Q : Addr → Shared → Prop}
    (h : wpAny M A x (fun v s₁ => ∃ kd o1 n1, v = .ref kd ∧ s₁.heap.get? kd = some o1 ∧ o1.cls = .type "dict" ∧ o1.data = .dict #[] n1 ∧ (kd == sysModules) = false ∧ s₁.heap.get? s.heap.objs.size = some emptyDict ∧ Q s.heap.objs.size s₁) E { s with heap := s.heap.push emptyDict }) :
    wpAny M A (mergedKeywords f [(none, x)]) Q E s := by
  unfold mergedKeywords
  refine wpAny_bind (wpAny_alloc (wpAny_bind (wpAny_holding ?_)))
  refine merged_shape (fun s Q' hq => ?_) (wpAny_mono h (fun v s₁ h₁ => ?_) fun _ _ q => q)
  · rw [if_pos (show ([] : List (Str × Sem Value)).isEmpty = true from rfl)]
    exact wpAny_pure hq
  · obtain ⟨kd, o1, n1, rfl, a1, a2, a3, a4, a5, hq⟩ := h₁
    exact wpAny_holding (wpAny_tryCatch (wpAny_onRaise (merge_empty a1 a2 a3 a5 rfl a4 (wpAny_pure hq))))
theorem callWith_star0 {K : Frag} {q g : Addr} {self : Value} {pos : Pos} {first : List Value} {args : List (Bool × Sem Value)} {x : Sem Value} {Q : Value → Shared → Prop} (ha : args.any (·.1) = false) (hf : fnIn K g = true) {y : Bool × Sem Value} {rest : List (Bool × Sem Value)} (he : args = y :: rest)
    (h : wpAny M A (spliced args) (fun vs s₁ => wpAny M A x (fun v s₂ => ∃ kd o1 n1, v = .ref kd ∧ s₂.heap.get? kd = some o1 ∧ o1.cls = .type "dict" ∧ o1.data = .dict #[] n1 ∧ (kd == sysModules) = false ∧ s₂.heap.get? s₁.heap.objs.size = some emptyDict ∧ MethP K q g self s₂.heap ∧ wpAny M A (call (.ref q) (first ++ vs) []) Q E s₂) E { s₁ with heap := s₁.heap.push emptyDict }) E s) :
    wpAny M A (callWith pos (.ref q) first args [(none, x)]) Q E s := by
  unfold callWith
  refine wpAny_bind (wpAny_holding ?_)
  have ev : wpAny M A (evalArgs (.ref q) true args [(none, x)]) (fun a s₂ => a.kw = [] ∧ MethP K q g self s₂.heap ∧ wpAny M A (call (.ref q) (first ++ a.pos) []) Q E s₂) E s := by
    subst he
    obtain ⟨b, y⟩ := y
    have hb : b = false := by
      rw [List.any_cons] at ha
      cases b
      · rfl
      · cases ha
    subst hb
    unfold evalArgs
    show wpAny M A (spliced ((false, y) :: rest) >>= _) _ E s
    refine wpAny_bind (wpAny_mono h (fun vs s₁ h₁ => ?_) fun _ _ x => x)
    refine wpAny_holding ?_
    dsimp only
    rw [if_neg (by simp)]
    refine wpAny_bind (merged_empty (wpAny_mono h₁ (fun v s₂ h₂ => ?_) fun _ _ q => q))
    obtain ⟨kd, o1, n1, e1, a1, a2, a3, a4, a5, a6, hq⟩ := h₂
    refine ⟨kd, o1, n1, e1, a1, a2, a3, a4, a5, ?_⟩
    exact wpAny_bind (wpAny_pure (wpAny_bind (wpAny_holding (kw_none a5 rfl (wpAny_pure ⟨rfl, a6, hq⟩)))))
  refine wpAny_mono ev (fun a s₁ h₁ => wpAny_bind (wpAny_standAt ?_)) fun _ _ x => x
  obtain ⟨e1, P, hc⟩ := h₁
  rw [e1]
  obtain ⟨k, hk, L⟩ := keeps_M (M := M) (K := K) (q := q) (f := g) (self := self) hf _ P
  have tail : ∀ {t : Sem Value}, wpAny M A t Q E s₁ → wpAny M A (t >>= fun r => holding [r] point >>= fun _ => pure r) Q E s₁ :=
    fun ht => wpAny_bind (wpAny_mono ht (fun r s₂ hr => wpAny_bind (wpAny_holding (wpAny_point (wpAny_pure hr)))) fun _ _ x => x)
  simp only [ha, List.any_cons, Option.isNone_none, Bool.true_or, Bool.or_true]
  refine wpAny_bind (L.here ?_)
  rcases hk with rfl | rfl | rfl <;> dsimp only
  · exact tail (by unfold callMarked; exact Calls.wpAny_keep hc)
  · exact tail (wpAny_operateT hc)
  · exact tail (wpAny_operateT hc)
end
end
section
theorem off_Sr : True := by
  w_top off
  exact True.intro
theorem unr_Sr {a b : Nat} (h : a < b) : a < b := h
local macro_rules | `(tactic| k_room) => `(tactic| ((try simp only [depth_under_make, depth_under_kw, depth_in1, depth_deeper, depth_caller]); (try dsimp only [ktrTop]); (try simp only [recursionLimit]); omega))
local macro_rules | `(tactic| k_units) => `(tactic| ((try simp only [units_in1, units_deeper, Around.mark_units, units_caller]); (try dsimp only [ktrTop]); (try simp only [cLine]); omega))
local macro_rules | `(tactic| k_enter) => `(tactic| (refine' code_def ?k1 ?k2 ?k3 ?k4 ?k5 ?kA ?kF ?kK ?k6 ?k7 ?k8 ?k9 ?kB ?_ ?c2 ?c3 ?c4 ?c5; (case kA => exact rfl); (case kF => exact rfl); (case kK => first | assumption | exact rfl); (case k1 => k_asm); (case k2 => k_asm); (case k3 => k_asm); (case k4 => k_asm); (case k5 => k_asm); (case k6 => k_is); (case k7 => k_is); (case k8 => k_room); (case k9 => first | exact BindsTo.of_eq rfl | exact binds_K (by k_in) rfl (by k_is) rfl rfl rfl | fail "k_enter: no rule for these arguments"); (case c5 => decide); (case kB => exact locs rfl); (case c2 => exact rfl); (case c3 => exact rfl); (case c4 => exact rfl); k_whole; intro g' L' h' FG' F' N' B' X' T'; (try dsimp only); (try k_lift B'); (try k_fold)))
local macro_rules | `(tactic| k_all) => `(tactic| (refine ne_of_below (by assumption) ?_; first | exact Nat.le_refl _ | omega))
local macro_rules | `(tactic| k_mem) => `(tactic| first | exact List.Mem.head _ | (refine List.Mem.tail _ ?_; k_mem) | assumption)
section
variable {prog : Program} {w : World} {A : Around} {E : Value → Shared → Prop} {x : Addr} {h : Heap} {g : Array GenState} {d : Drawn} {t : Nat} {os : OsState}
theorem super_getAttr {so D x C f : Addr} {of : Obj} {l₀ l : List Value} {K : Frag} {name : Str} {ex : Bool} {Q : Value → Shared → Prop}
    (hso : h.get? so = some { cls := .type "super", dict := none, data := .fields #[.ref D, .ref x, .ref C], slots := #[] }) (hno : Looks (model prog w) h (opaqueClassAbove (.ref C)) none)
    (hC : Looks (model prog w) h (mroOf (.ref C)) l₀) (hl : (l₀.dropWhile (· != .ref D)).drop 1 = l) (X : K.In h)
    (hf : alongIn K name l = some (some (.ref f))) (hfo : h.get? f = some of) (hfc : of.cls = .type "function") (hxC : x ≠ C) (hn : (name == ("__class__" : Str)) = false)
    (hq : Q (.ref h.objs.size) ⟨h.push { cls := .type "method", data := .fields #[.ref f, .ref x] }, g, d, t + 1, os⟩) :
    wpAny (model prog w) A (getAttr (.ref so) name ex) Q E ⟨h, g, d, t, os⟩ := by
  have hlk := F.ks_slot_super_ga.lookup
  have hT : ∀ t', (⟨h, g, d, t', os⟩ : Shared).TypeIs (.ref so) "super" := fun _ => ⟨_, hso, rfl⟩
  unfold getAttr getAttrBy
  refine wpAny_bind (wpAny_mkText (wpAny_holding (wpAny_bind (wpAny_typeOf (hT _) (wpAny_bind (wpAny_of_eq hlk ?_))))))
  dsimp only
  rw [show (onTheHeap (.type "super") && Value.builtin "super.__getattribute__" == Value.builtin "object.__getattribute__") = false from rfl, if_neg (by decide)]
  unfold getAttrByItsOwn hookBefore callGetattribute boundAndCalled
  refine wpAny_bind (wpAny_of_eq (show (if onTheHeap (.type "super") then typeLookup (.type "super") "__getattr__" else pure none) = pure none from rfl) ?_)
  refine wpAny_bind (wpAny_attempt (wpAny_holding ?_))
  rw [show (ex && onTheHeap (Value.builtin "super.__getattribute__")) = false from by rw [show onTheHeap (Value.builtin "super.__getattribute__") = false from rfl, Bool.and_false], if_neg (by decide)]
  show wpAny _ _ (bindSpecial (.builtin "super.__getattribute__") (.ref so) >>= _) _ _ _
  refine wpAny_bind (wpAny_of_eq (F.ks_slot_super_ga.bind _) ?_)
  refine wpAny_mono (Q := fun v s' => v = .ref h.objs.size ∧ s' = ⟨h.push { cls := .type "method", data := .fields #[.ref f, .ref x] }, g, d, t + 1, os⟩) (E := fun _ _ => False)
    (wpAny_call_entry F.ks_slot_super_ga (hT _) F.ks_entry_super_ga (ks_wpAny_super_ga hso hno hC hl X hf hfo hfc hxC hn ⟨_, rfl, rfl, rfl⟩) (F.ks_gaArgs_super _ _)) (fun v s' hv => ?_) fun _ _ z => z.elim
  obtain ⟨rfl, rfl⟩ := hv
  exact wpAny_pure hq
end
section
variable {prog : Program} {w : World} {A : Around} {E : Value → Shared → Prop} {s : Shared} {h₀ : Heap} {L : Addr} {m mg mb : Str → Option Value} {news : List (Addr × Obj)} {K : Frag} {x C D f f2 cc cda so : Addr} {ox : Obj} {odx : Option Obj}
theorem super_attr {name : Str} {ex : Bool} {Q : Value → Shared → Prop} (F : Fr h₀ L s.heap m) (X₀ : K.In h₀) (N : News h₀ L s.heap news) (hso : (so, ks_superObj D x C) ∈ news) (I : InstAt s.heap x ox C odx) (ho : nsIn K cStatics "thirdparty.any" = some none)
    (hm : ks_superIn K C D name = some (some (.ref f2))) (ht : typeIn K (.ref f2) = some (.type "function")) (hn : (name == ("__class__" : Str)) = false)
    (h : ∀ q h', Fr h₀ L h' m → News h₀ L h' ((q, methodObj (.ref f2) (.ref x)) :: news) → (∀ p ∈ news, p.1 < q) → Q (.ref q) { s with heap := h', toks := s.toks + 1 }) : wpAny (model prog w) A (getAttr (.ref so) name ex) Q E s := by
  have X : K.In s.heap := X₀.keeps F.keep
  obtain ⟨hh, g, d, t, os⟩ := s
  cases hc : clsIn K C with
  | none => unfold ks_superIn at hm; rw [hc] at hm; cases hm
  | some cd =>
    unfold ks_superIn at hm
    rw [hc] at hm
    obtain ⟨of, hof, hofc⟩ : ∃ of, hh.get? f2 = some of ∧ of.cls = .type "function" := by
      have ht' : (K.lookup f2).map (·.cls) = some (.type "function") := ht
      cases z : K.lookup f2 with
      | none => rw [z] at ht'; cases ht'
      | some of => rw [z] at ht'; exact ⟨of, X _ _ z, Option.some.inj ht'⟩
    refine super_getAttr (N _ hso).1 (looks_opaque X ho) (l₀ := cd.mro) ?_ rfl X hm hof hofc (ks_ne X I hc) hn ?_
    · exact fun A Q E s k q => wpAny_bind ((looks_clsIn X hc) A _ E s k (wpAny_pure q))
    · obtain ⟨F', N', l'⟩ := ks_newsPush (s := ⟨hh, g, d, t, os⟩) (o := methodObj (.ref f2) (.ref x)) F N rfl (Heap.get?_push_at rfl rfl) (fun b o e => Heap.get?_push_of_some _ e)
      exact h _ _ F' N' l'
end
section
variable {M : Model} {A : Around} {E : Value → Shared → Prop} {s : Shared} {env : Env} {c : Code}
theorem wpAt_CallStar {o : Expr} {name : Str} {apos pos : Pos} {args : List Expr} {kws : List Keyword} {Q : Value → Shared → Prop} (hf : methodCallForm (args.length + kws.length) (backTo pos (starEach args env)) (backToKw pos (keywordEach kws env)) = false)
    (h : _root_.PySem.wpAt M A c (attributeBase o name env (eval o env)) (fun ov s₁ => wpAny M A (getAttr ov name true) (fun f s₂ => wpAny M A (callWith pos f [] (backTo pos (starEach args env)) (backToKw pos (keywordEach kws env))) Q E s₂) E s₁) E s) :
    _root_.PySem.wpAt M A c (eval (.Call (.Attribute o name apos) args kws pos) env) Q E s := by
  rw [arm_eval_Call]
  refine PySem.wpAt_bind (ks_wpAt_mono h (fun ov s₁ h₁ => PySem.wpAt_of_wpAny (wpAny_bind (wpAny_standAt ?_))) fun _ _ x => x)
  unfold methodCall calleeOf methodCallPos
  rw [hf]
  refine wpAny_bind (wpAny_holding (wpAny_bind (wpAny_mono h₁ (fun f s₂ h₂ => wpAny_pure ?_) fun _ _ x => x)))
  exact wpAny_bind (wpAny_pure h₂)
end
section
variable {M : Model} {A : Around} {E : Value → Shared → Prop} {s : Shared}
theorem callWith_starM {K : Frag} {h₀ : Heap} {L : Addr} {news : List (Addr × Obj)} {q g : Addr} {self : Value} {pos : Pos} {first : List Value} {args : List (Bool × Sem Value)} {x : Sem Value} {Q : Value → Shared → Prop} (X : K.In h₀) (_N : News h₀ L s.heap news) (_q : (q, methodObj (.ref g) self) ∈ news) (hf : fnIn K g = true) (ha : args.any (·.1) = false) {y : Bool × Sem Value} {rest : List (Bool × Sem Value)} (he : args = y :: rest)
    (h : wpAny M A (spliced args) (fun vs s₁ => Stop <| ∃ m₁ news₁, Fr h₀ L s₁.heap m₁ ∧ News h₀ L s₁.heap news₁ ∧ ∀ d h', Fr h₀ L h' m₁ → News h₀ L h' ((d, emptyDict) :: news₁) → (∀ p ∈ news₁, p.1 < d) →
      wpAny M A x (fun v s₂ => Stop <| ∃ kd o1 n1 m₂ news₂, v = .ref kd ∧ Fr h₀ L s₂.heap m₂ ∧ News h₀ L s₂.heap news₂ ∧ (kd, o1) ∈ news₂ ∧ o1.cls = .type "dict" ∧ o1.data = .dict #[] n1 ∧ (kd == sysModules) = false ∧ (d, emptyDict) ∈ news₂ ∧ (q, methodObj (.ref g) self) ∈ news₂ ∧ wpAny M A (call (.ref q) (first ++ vs) []) Q E s₂) E { s₁ with heap := h' }) E s) :
    wpAny M A (callWith pos (.ref q) first args [(none, x)]) Q E s := by
  refine callWith_star0 (K := K) (g := g) (self := self) ha hf he (wpAny_mono h (fun vs s₁ h₁ => ?_) fun _ _ q => q)
  obtain ⟨m₁, news₁, F, N, h₁⟩ := h₁
  refine wpAny_mono (h₁ _ _ (F.push emptyDict) (N.push F emptyDict) fun p hp => Heap.lt_size (N p hp).1) (fun v s₂ h₂ => ?_) fun _ _ q => q
  obtain ⟨kd, o1, n1, m₂, news₂, e1, F₂, N₂, a1, a2, a3, a4, a5, a6, hc⟩ := h₂
  exact ⟨kd, o1, n1, e1, (N₂ _ a1).1, a2, a3, a4, (N₂ _ a5).1, ⟨(N₂ _ a6).1, X.keeps F₂.keep⟩, hc⟩
end
theorem dict_nil {prog : Program} {w : World} {κ : Type} [DecidableEq κ] {knd : KeyKind prog w κ} {o : Obj} (h : o.IsDictOf knd []) : o.cls = .type "dict" ∧ ∃ n, o.data = .dict #[] n := by
  obtain ⟨es, ep, x, hd, _, hp, _⟩ := h
  refine ⟨x.1, ep, ?_⟩
  obtain ⟨l⟩ := es
  cases hp
  exact hd
end
section
theorem off_Cn : True := by
  w_top off
  exact True.intro
local macro_rules | `(tactic| walk_at "off 0") => `(tactic| fail)
local macro_rules | `(tactic| walk_at "off 1") => `(tactic| fail)
local macro_rules | `(tactic| walk_at "off 2") => `(tactic| fail)
local macro_rules | `(tactic| walk_at "off 3") => `(tactic| fail)
local macro_rules | `(tactic| walk_at "off 4") => `(tactic| fail)
local macro_rules | `(tactic| walk_at "off 5") => `(tactic| fail)
theorem unr_Cn {a b : Nat} (h : a < b) : a < b := h
local macro_rules | `(tactic| k_room) => `(tactic| ((try simp only [depth_under_make, depth_under_kw, depth_in1, depth_deeper, depth_caller]); (try dsimp only [ktrTop]); (try simp only [recursionLimit]); omega))
local macro_rules | `(tactic| k_units) => `(tactic| ((try simp only [units_in1, units_deeper, Around.mark_units, units_caller]); (try dsimp only [ktrTop]); (try simp only [cLine]); omega))
local macro_rules | `(tactic| k_enter) => `(tactic| (refine' code_def ?k1 ?k2 ?k3 ?k4 ?k5 ?kA ?kF ?kK ?k6 ?k7 ?k8 ?k9 ?kB ?_ ?c2 ?c3 ?c4 ?c5; (case kA => exact rfl); (case kF => exact rfl); (case kK => first | assumption | exact rfl); (case k1 => k_asm); (case k2 => k_asm); (case k3 => k_asm); (case k4 => k_asm); (case k5 => k_asm); (case k6 => k_is); (case k7 => k_is); (case k8 => k_room); (case k9 => first | exact BindsTo.of_eq rfl | exact binds_K (by k_in) rfl (by k_is) rfl rfl rfl | fail "k_enter: no rule for these arguments"); (case c5 => decide); (case kB => exact locs rfl); (case c2 => exact rfl); (case c3 => exact rfl); (case c4 => exact rfl); k_whole; intro g' L' h' FG' F' N' B' X' T'; (try dsimp only); (try k_lift B'); (try k_fold)))
local macro_rules | `(tactic| k_all) => `(tactic| (refine ne_of_below (by assumption) ?_; first | exact Nat.le_refl _ | omega))
local macro_rules | `(tactic| k_mem) => `(tactic| first | exact List.Mem.head _ | (refine List.Mem.tail _ ?_; k_mem) | assumption)
def Made (news news' : Led) (x d : Addr) (o : Obj) : Prop := (x, o) ∈ news' ∧ (d, dictOf [] 0) ∈ news' ∧ (∀ z ∈ news, z ∈ news') ∧ (∀ z ∈ news, z.1 < d) ∧ d < x
local macro_rules | `(tactic| walk_at "call ref") => `(tactic| (k_here; k_dflt (first
 | ((with_reducible show wpAny _ _ (call (Value.ref 367) _) _ _ _); refine' call_cls ?k1 ?k2 ?k3 ?k4 ?k5 ?k6 ?_; (case k1 => k_asm); (case k2 => k_asm); (case k3 => k_asm); (case k4 => k_is); (case k5 => k_is); (case k6 => k_is); intro x' d' h' F' N' l1 l2; (try k_lt l1); (try k_lt2 l2); (refine' ks_code_super ?k1 ?k2 ?k3 ?k4 ?k5 ?kA ?kF ?kK ?k6 ?k7 ?k8 ?k9 ?kB ?_ ?c1 ?c2 ?c3 ?c4; (case kA => exact rfl); (case kF => exact rfl); (case kK => first | assumption | exact rfl); (case k1 => k_asm); (case k2 => k_asm); (case k3 => k_asm); (case k4 => k_asm); (case k5 => k_asm); (case k6 => k_is); (case k7 => k_is); (case k8 => k_room); (case k9 => first | exact BindsTo.of_eq rfl | exact binds_K (by k_in) rfl (by k_is) rfl rfl rfl); (case kB => exact locs rfl); (case c1 => decide); (case c2 => exact rfl); (case c3 => exact rfl); (case c4 => exact rfl); intro g' L' h' FG' F' N' B' X' T' l1; (try k_lt l1); (try dsimp only); (try k_lift B')))
 | ((with_reducible show wpAny _ _ (call (Value.ref 425) _ _) _ _ _); refine' call_cls ?k1 ?k2 ?k3 ?k4 ?k5 ?k6 ?_; (case k1 => k_asm); (case k2 => k_asm); (case k3 => k_asm); (case k4 => k_is); (case k5 => k_is); (case k6 => k_is); intro x' d' h' F' N' l1 l2; (try k_lt l1); (try k_lt2 l2); (refine' sp_both ?k1 ?k2 ?k3 ?k4 ?k5 ?kA ?kF ?kK ?k6 ?k7 ?k8 ?kV ?kX ?kN ?kD ?kR ?kP ?kT ?kB ?_ ?c2 ?c3 ?c4 ?c5; (case kA => exact rfl); (case kF => exact rfl); (case kK => first | assumption | exact rfl); (case k1 => k_asm); (case k2 => k_asm); (case k3 => k_asm); (case k4 => k_asm); (case k5 => k_asm); (case k6 => k_is); (case k7 => k_is); (case k8 => k_room); (case kV => kp_lit); (case kX => kp_lit); (case kR => exact rfl); (case kP => exact fun _ => rfl); (case kT => exact fun _ _ => rfl); (case kN => exact rfl); (case kD => kp_flats); (case kB => exact fun _ _ => locs rfl); (case c5 => decide); (case c2 => exact rfl); (case c3 => exact rfl); (case c4 => exact rfl); k_whole; intro C' D' o' g' L' h' tk' l1 l2 lo' hs' fs' FG' F' N' B' X' T' l3; (try k_lt l1); (try k_lt2 l2); (try k_lt l3); (try dsimp only); (try k_lift B'); (try k_fold)))
 | ((with_reducible show wpAny _ _ (call (Value.ref 451) _ _) _ _ _); refine' call_cls ?k1 ?k2 ?k3 ?k4 ?k5 ?k6 ?_; (case k1 => k_asm); (case k2 => k_asm); (case k3 => k_asm); (case k4 => k_is); (case k5 => k_is); (case k6 => k_is); intro x' d' h' F' N' l1 l2; (try k_lt l1); (try k_lt2 l2); (refine' sp_both ?k1 ?k2 ?k3 ?k4 ?k5 ?kA ?kF ?kK ?k6 ?k7 ?k8 ?kV ?kX ?kN ?kD ?kR ?kP ?kT ?kB ?_ ?c2 ?c3 ?c4 ?c5; (case kA => exact rfl); (case kF => exact rfl); (case kK => first | assumption | exact rfl); (case k1 => k_asm); (case k2 => k_asm); (case k3 => k_asm); (case k4 => k_asm); (case k5 => k_asm); (case k6 => k_is); (case k7 => k_is); (case k8 => k_room); (case kV => kp_lit); (case kX => kp_lit); (case kR => exact rfl); (case kP => exact fun _ => rfl); (case kT => exact fun _ _ => rfl); (case kN => exact rfl); (case kD => kp_flats); (case kB => exact fun _ _ => locs rfl); (case c5 => decide); (case c2 => exact rfl); (case c3 => exact rfl); (case c4 => exact rfl); k_whole; intro C' D' o' g' L' h' tk' l1 l2 lo' hs' fs' FG' F' N' B' X' T' l3; (try k_lt l1); (try k_lt2 l2); (try k_lt l3); (try dsimp only); (try k_lift B'); (try k_fold)))
 | ((with_reducible show wpAny _ _ (call (Value.ref 489) _ _) _ _ _); refine' call_cls ?k1 ?k2 ?k3 ?k4 ?k5 ?k6 ?_; (case k1 => k_asm); (case k2 => k_asm); (case k3 => k_asm); (case k4 => k_is); (case k5 => k_is); (case k6 => k_is); intro x' d' h' F' N' l1 l2; (try k_lt l1); (try k_lt2 l2); (refine' sp_more ?k1 ?k2 ?k3 ?k4 ?k5 ?kA ?kF ?kK ?k6 ?k7 ?k8 ?kX ?kN ?kD ?kP ?kT ?kB ?_ ?c2 ?c3 ?c4 ?c5; (case kA => exact rfl); (case kF => exact rfl); (case kK => first | assumption | exact rfl); (case k1 => k_asm); (case k2 => k_asm); (case k3 => k_asm); (case k4 => k_asm); (case k5 => k_asm); (case k6 => k_is); (case k7 => k_is); (case k8 => k_room); (case kX => kp_lit); (case kP => exact rfl); (case kT => exact fun _ => rfl); (case kN => exact rfl); (case kD => kp_flats); (case kB => exact fun _ => locs rfl); (case c5 => decide); (case c2 => exact rfl); (case c3 => exact rfl); (case c4 => exact rfl); k_whole; intro D' o' g' L' h' tk' l1 lo' hs' fs' FG' F' N' B' X' T' l3; (try k_lt l1); (try k_lt l3); (try dsimp only); (try k_lift B'); (try k_fold)))
 | (refine' call_meth ?k1 ?k2 ?_; (case k1 => k_asm); (case k2 => k_mem); first | k_enter | (refine' sp_both ?k1 ?k2 ?k3 ?k4 ?k5 ?kA ?kF ?kK ?k6 ?k7 ?k8 ?kV ?kX ?kN ?kD ?kR ?kP ?kT ?kB ?_ ?c2 ?c3 ?c4 ?c5; (case kA => exact rfl); (case kF => exact rfl); (case kK => first | assumption | exact rfl); (case k1 => k_asm); (case k2 => k_asm); (case k3 => k_asm); (case k4 => k_asm); (case k5 => k_asm); (case k6 => k_is); (case k7 => k_is); (case k8 => k_room); (case kV => kp_lit); (case kX => kp_lit); (case kR => exact rfl); (case kP => exact fun _ => rfl); (case kT => exact fun _ _ => rfl); (case kN => exact rfl); (case kD => kp_flats); (case kB => exact fun _ _ => locs rfl); (case c5 => decide); (case c2 => exact rfl); (case c3 => exact rfl); (case c4 => exact rfl); k_whole; intro C' D' o' g' L' h' tk' l1 l2 lo' hs' fs' FG' F' N' B' X' T' l3; (try k_lt l1); (try k_lt2 l2); (try k_lt l3); (try dsimp only); (try k_lift B'); (try k_fold))))))
local macro_rules | `(tactic| walk_at "wpAt") => `(tactic| (ks_step "exec Expr"; k_dflt (refine ks_wpAt_Expr_any ?_)))
local macro_rules | `(tactic| walk_at "wpAt") => `(tactic| (ks_step "eval Call"; k_dflt (first | refine ks_wpAt_MethodCall ?_ | refine wpAt_CallStar (by rfl) ?_)))
local macro_rules | `(tactic| walk_at "getAttr ref") => `(tactic| (k_here; ks_any; k_dflt (refine' super_attr ?k1 ?k2 ?k3 ?k4 ?k5 ?k6 ?k7 ?k8 ?k9 ?_; (case k1 => k_asm); (case k2 => k_asm); (case k3 => k_asm); (case k4 => k_mem); (case k5 => k_inst); (case k6 => k_is); (case k7 => ks_is); (case k8 => k_is); (case k9 => decide); intro q' h' F' N' l1; (try k_lt l1))))
local macro_rules | `(tactic| walk_at "callWith ref") => `(tactic| (k_here; k_dflt (refine' callWith_starM ?X ?N ?q ?hf ?ha ?he ?_; (case X => k_asm); (case N => k_asm); (case q => k_mem); (case hf => k_is); (case ha => exact rfl); (case he => exact rfl))))
theorem lit_new (w : World) (news : Led) (wd : Str) (tt : Tok) :
    Does w 40 200 (call (.ref 367) [.str wd tt]) news fun r news' => ∃ x d idt nt, r = .ref x ∧ Made news news' x d ⟨.ref 367, some d, .plain, #[some (.str wd tt), some idt, some (.str (Str.ofString "") nt)]⟩ := by
  unfold Does
  k_fill
  intro dp un gd cn cs a ccd cl outer A₀ base h₀ L m s loose mean mg mb Q E B F X N T hk hdp hun hret
  k_steps
  exact hret _ _ _ _ (by assumption) (by assumption) ⟨_, _, _, _, rfl, ⟨by k_mem, by k_mem, fun z hz => by simp [hz], by assumption, ltN (by assumption)⟩⟩
theorem seq2_new (w : World) (news : Led) (a1 a2 : Addr) :
    Does w 40 200 (call (.ref 425) [.ref a1, .ref a2]) news fun r news' => ∃ x d idt nt t k, r = .ref x ∧ Made news news' x d ⟨.ref 425, some d, .plain, #[some (.ref t), some idt, some (.str (Str.ofString "") nt)]⟩ ∧ (t, tupO [.ref a1, .ref a2] k) ∈ news' ∧ ∀ z ∈ news, z.1 < t := by
  unfold Does
  k_fill
  intro dp un gd cn cs a ccd cl outer A₀ base h₀ L m s loose mean mg mb Q E B F X N T hk hdp hun hret
  k_steps
  exact hret _ _ _ _ (by assumption) (by assumption) ⟨_, _, _, _, _, _, rfl, ⟨by k_mem, by k_mem, fun z hz => by simp [hz], by assumption, ltN (by assumption)⟩, by k_mem, fun z hz => by
    have a1 : @LT.lt Nat _ z.1 _ := (show ∀ p ∈ news, p.1 < _ from by assumption) z hz
    refine ltN ?_
    omega⟩
theorem seq1k_new (w : World) (news : Led) (a1 : Addr) (name : Str) (tn : Tok) :
    Does w 40 200 (call (.ref 425) [.ref a1] [(Str.ofString "name", .str name tn)]) news fun r news' => ∃ x d idt nt t k, r = .ref x ∧ Made news news' x d ⟨.ref 425, some d, .plain, #[some (.ref t), some idt, some (.str (name) nt)]⟩ ∧ (t, tupO [.ref a1] k) ∈ news' ∧ ∀ z ∈ news, z.1 < t := by
  unfold Does
  k_fill
  intro dp un gd cn cs a ccd cl outer A₀ base h₀ L m s loose mean mg mb Q E B F X N T hk hdp hun hret
  k_steps
  exact hret _ _ _ _ (by assumption) (by assumption) ⟨_, _, _, _, _, _, rfl, ⟨by k_mem, by k_mem, fun z hz => by simp [hz], by assumption, ltN (by assumption)⟩, by k_mem, fun z hz => by
    have a1 : @LT.lt Nat _ z.1 _ := (show ∀ p ∈ news, p.1 < _ from by assumption) z hz
    refine ltN ?_
    omega⟩
theorem seq2k_new (w : World) (news : Led) (a1 a2 : Addr) (name : Str) (tn : Tok) :
    Does w 40 200 (call (.ref 425) [.ref a1, .ref a2] [(Str.ofString "name", .str name tn)]) news fun r news' => ∃ x d idt nt t k, r = .ref x ∧ Made news news' x d ⟨.ref 425, some d, .plain, #[some (.ref t), some idt, some (.str (name) nt)]⟩ ∧ (t, tupO [.ref a1, .ref a2] k) ∈ news' ∧ ∀ z ∈ news, z.1 < t := by
  unfold Does
  k_fill
  intro dp un gd cn cs a ccd cl outer A₀ base h₀ L m s loose mean mg mb Q E B F X N T hk hdp hun hret
  k_steps
  exact hret _ _ _ _ (by assumption) (by assumption) ⟨_, _, _, _, _, _, rfl, ⟨by k_mem, by k_mem, fun z hz => by simp [hz], by assumption, ltN (by assumption)⟩, by k_mem, fun z hz => by
    have a1 : @LT.lt Nat _ z.1 _ := (show ∀ p ∈ news, p.1 < _ from by assumption) z hz
    refine ltN ?_
    omega⟩
theorem seq3k_new (w : World) (news : Led) (a1 a2 a3 : Addr) (name : Str) (tn : Tok) :
    Does w 40 200 (call (.ref 425) [.ref a1, .ref a2, .ref a3] [(Str.ofString "name", .str name tn)]) news fun r news' => ∃ x d idt nt t k, r = .ref x ∧ Made news news' x d ⟨.ref 425, some d, .plain, #[some (.ref t), some idt, some (.str (name) nt)]⟩ ∧ (t, tupO [.ref a1, .ref a2, .ref a3] k) ∈ news' ∧ ∀ z ∈ news, z.1 < t := by
  unfold Does
  k_fill
  intro dp un gd cn cs a ccd cl outer A₀ base h₀ L m s loose mean mg mb Q E B F X N T hk hdp hun hret
  k_steps
  exact hret _ _ _ _ (by assumption) (by assumption) ⟨_, _, _, _, _, _, rfl, ⟨by k_mem, by k_mem, fun z hz => by simp [hz], by assumption, ltN (by assumption)⟩, by k_mem, fun z hz => by
    have a1 : @LT.lt Nat _ z.1 _ := (show ∀ p ∈ news, p.1 < _ from by assumption) z hz
    refine ltN ?_
    omega⟩
theorem one1k_new (w : World) (news : Led) (a1 : Addr) (name : Str) (tn : Tok) :
    Does w 40 200 (call (.ref 451) [.ref a1] [(Str.ofString "name", .str name tn)]) news fun r news' => ∃ x d idt nt t k, r = .ref x ∧ Made news news' x d ⟨.ref 451, some d, .plain, #[some (.ref t), some idt, some (.str (name) nt)]⟩ ∧ (t, tupO [.ref a1] k) ∈ news' ∧ ∀ z ∈ news, z.1 < t := by
  unfold Does
  k_fill
  intro dp un gd cn cs a ccd cl outer A₀ base h₀ L m s loose mean mg mb Q E B F X N T hk hdp hun hret
  k_steps
  exact hret _ _ _ _ (by assumption) (by assumption) ⟨_, _, _, _, _, _, rfl, ⟨by k_mem, by k_mem, fun z hz => by simp [hz], by assumption, ltN (by assumption)⟩, by k_mem, fun z hz => by
    have a1 : @LT.lt Nat _ z.1 _ := (show ∀ p ∈ news, p.1 < _ from by assumption) z hz
    refine ltN ?_
    omega⟩
theorem one2k_new (w : World) (news : Led) (a1 a2 : Addr) (name : Str) (tn : Tok) :
    Does w 40 200 (call (.ref 451) [.ref a1, .ref a2] [(Str.ofString "name", .str name tn)]) news fun r news' => ∃ x d idt nt t k, r = .ref x ∧ Made news news' x d ⟨.ref 451, some d, .plain, #[some (.ref t), some idt, some (.str (name) nt)]⟩ ∧ (t, tupO [.ref a1, .ref a2] k) ∈ news' ∧ ∀ z ∈ news, z.1 < t := by
  unfold Does
  k_fill
  intro dp un gd cn cs a ccd cl outer A₀ base h₀ L m s loose mean mg mb Q E B F X N T hk hdp hun hret
  k_steps
  exact hret _ _ _ _ (by assumption) (by assumption) ⟨_, _, _, _, _, _, rfl, ⟨by k_mem, by k_mem, fun z hz => by simp [hz], by assumption, ltN (by assumption)⟩, by k_mem, fun z hz => by
    have a1 : @LT.lt Nat _ z.1 _ := (show ∀ p ∈ news, p.1 < _ from by assumption) z hz
    refine ltN ?_
    omega⟩
theorem one3k_new (w : World) (news : Led) (a1 a2 a3 : Addr) (name : Str) (tn : Tok) :
    Does w 40 200 (call (.ref 451) [.ref a1, .ref a2, .ref a3] [(Str.ofString "name", .str name tn)]) news fun r news' => ∃ x d idt nt t k, r = .ref x ∧ Made news news' x d ⟨.ref 451, some d, .plain, #[some (.ref t), some idt, some (.str (name) nt)]⟩ ∧ (t, tupO [.ref a1, .ref a2, .ref a3] k) ∈ news' ∧ ∀ z ∈ news, z.1 < t := by
  unfold Does
  k_fill
  intro dp un gd cn cs a ccd cl outer A₀ base h₀ L m s loose mean mg mb Q E B F X N T hk hdp hun hret
  k_steps
  exact hret _ _ _ _ (by assumption) (by assumption) ⟨_, _, _, _, _, _, rfl, ⟨by k_mem, by k_mem, fun z hz => by simp [hz], by assumption, ltN (by assumption)⟩, by k_mem, fun z hz => by
    have a1 : @LT.lt Nat _ z.1 _ := (show ∀ p ∈ news, p.1 < _ from by assumption) z hz
    refine ltN ?_
    omega⟩
theorem look_new (w : World) (news : Led) (x : Addr) :
    Does w 40 200 (call (.ref 489) [.ref x] [(Str.ofString "negative", .bool true)]) news fun r news' => ∃ y d idt nt t k, r = .ref y ∧ Made news news' y d ⟨.ref 489, some d, .plain, #[some (.bool true), some (.ref t), some idt, some (.str (Str.ofString "") nt)]⟩ ∧ (t, tupO [.ref x] k) ∈ news' ∧ ∀ z ∈ news, z.1 < t := by
  unfold Does
  k_fill
  intro dp un gd cn cs a ccd cl outer A₀ base h₀ L m s loose mean mg mb Q E B F X N T hk hdp hun hret
  k_steps
  refine unstop ⟨_, _, by k_asm, by k_asm, ?_⟩
  intro d2 h2 F2 N2 l2
  k_lt l2
  refine wpAny_bind ?_
  k_steps
  refine wpAny_bind (wpAny_standAt (wpAny_pure ?_))
  rename_i x5 d5 h5 F5 N5 l5 l6 D5 o5 g5 L5 h6 tk6 lo5 hs5 fs5 FG5 F6 N6 B6 X6 T6 l7 l8 so5 h7 F7 N7 l9 q5 h8 F8 N8 l10
  obtain ⟨a1, n5, a2⟩ := dict_nil hs5
  refine unstop ⟨D5, o5, n5, _, _, rfl, by k_asm, by k_asm, by k_mem, a1, a2, lo5, by k_mem, by k_mem, ?_⟩
  k_steps
  exact hret _ _ _ _ (by assumption) (by assumption) ⟨_, _, _, _, _, _, rfl, ⟨by k_mem, by k_mem, fun z hz => by simp [hz], by assumption, ltN (by assumption)⟩, by k_mem, fun z hz => by
    have a1 : @LT.lt Nat _ z.1 _ := (show ∀ p ∈ news, p.1 < _ from by assumption) z hz
    refine ltN ?_
    omega⟩
end
section
theorem off_Ly : True := by
  w_top off
  exact True.intro
theorem unr_Ly {a b : Nat} (h : a < b) : a < b := h
local macro_rules | `(tactic| k_room) => `(tactic| ((try simp only [depth_under_make, depth_under_kw, depth_in1, depth_deeper, depth_caller]); (try dsimp only [ktrTop]); (try simp only [recursionLimit]); omega))
local macro_rules | `(tactic| k_units) => `(tactic| ((try simp only [units_in1, units_deeper, Around.mark_units, units_caller]); (try dsimp only [ktrTop]); (try simp only [cLine]); omega))
local macro_rules | `(tactic| k_enter) => `(tactic| (refine' code_def ?k1 ?k2 ?k3 ?k4 ?k5 ?kA ?kF ?kK ?k6 ?k7 ?k8 ?k9 ?kB ?_ ?c2 ?c3 ?c4 ?c5; (case kA => exact rfl); (case kF => exact rfl); (case kK => first | assumption | exact rfl); (case k1 => k_asm); (case k2 => k_asm); (case k3 => k_asm); (case k4 => k_asm); (case k5 => k_asm); (case k6 => k_is); (case k7 => k_is); (case k8 => k_room); (case k9 => first | exact BindsTo.of_eq rfl | exact binds_K (by k_in) rfl (by k_is) rfl rfl rfl | fail "k_enter: no rule for these arguments"); (case c5 => decide); (case kB => exact locs rfl); (case c2 => exact rfl); (case c3 => exact rfl); (case c4 => exact rfl); k_whole; intro g' L' h' FG' F' N' B' X' T'; (try dsimp only); (try k_lift B'); (try k_fold)))
local macro_rules | `(tactic| k_all) => `(tactic| (refine ne_of_below (by assumption) ?_; first | exact Nat.le_refl _ | omega))
local macro_rules | `(tactic| k_mem) => `(tactic| first | exact List.Mem.head _ | (refine List.Mem.tail _ ?_; k_mem) | assumption)
abbrev lz523 : Obj := excClassObj (Str.ofString "LazyReference") (Str.ofString "LazyReference") 523 522 [.type "str"] [.type "str", .type "object"] true [] [] false none none (some (.ref 500)) none (some (.str (Str.ofString "LazyReference") 843)) (some (.str (Str.ofString "LazyReference") 851)) (some (.bool true)) "str.__new__"
theorem lz_lookup {w : World} {h : Heap} (X : (hd.heap_39 w.params).In h) : h.get? 523 = some lz523 := by
  revert X; refine kf ?_; k_fill; intro _ X
  refine X _ _ ?_
  k_is
abbrev lzObj (d : Addr) (t : Str) (k : Tok) : Obj := { cls := .ref 523, dict := some d, data := .prim (.str t k) }
section
variable {w : World} {A : Around} {E : Value → Shared → Prop} {R : Result → Shared → Prop} {hp : Heap} {g : Array GenState} {d : Drawn} {t : Nat} {os : OsState}
theorem lz_check {M : Model} {x : Str} {tx : Tok} {Q : Unit → Shared → Prop} (hC : hp.get? 523 = some lz523) (hq : Q () ⟨hp, g, d, t, os⟩) :
    wpAny M A (checkBuiltinCall "str.__new__" ⟨[.ref 523, .str x tx], []⟩) Q E ⟨hp, g, d, t, os⟩ := by
  have k1 : builtinKind "str.__new__" = some .builtinFn := by decide +kernel
  have k2 : splitId "str.__new__" = some ("str", "__new__") := by decide +kernel
  have k3 : Manifest.signature? "str.__new__" = some ⟨.keywords, "str", "str", .cls, [⟨"object", .posOrKw, false⟩, ⟨"encoding", .posOrKw, false⟩, ⟨"errors", .posOrKw, false⟩]⟩ := by kernel_rfl
  simp only [checkBuiltinCall, k1, k2, k3]
  repeat (first | with_reducible refine wpAny_onRaise (wpAny_of_eq (a := ()) (by kernel_rfl) ?_) | with_reducible refine wpAny_loadPart_at hC ?_ | (with_reducible refine wpAny_isSubtype_exc hC ?_; rw [show (Value.ref 523 :: [Value.type "str", Value.type "object"]).contains (.type "str") = true from by decide]) | with_reducible refine wpAny_staticBase_exc hC ?_ | with_reducible refine wpAny_madeBy_exc hC ?_ | simp only [bne_self_eq_false, Bool.false_eq_true, if_false] | wp_step)
  exact hq
end
end
section
theorem off_Lz : True := by
  w_top off
  exact True.intro
local macro_rules | `(tactic| walk_at "off 0") => `(tactic| fail)
theorem unr_Lz {a b : Nat} (h : a < b) : a < b := h
local macro_rules | `(tactic| k_room) => `(tactic| ((try simp only [depth_under_make, depth_under_kw, depth_in1, depth_deeper, depth_caller]); (try dsimp only [ktrTop]); (try simp only [recursionLimit]); omega))
local macro_rules | `(tactic| k_units) => `(tactic| ((try simp only [units_in1, units_deeper, Around.mark_units, units_caller]); (try dsimp only [ktrTop]); (try simp only [cLine]); omega))
local macro_rules | `(tactic| k_enter) => `(tactic| (refine' code_def ?k1 ?k2 ?k3 ?k4 ?k5 ?kA ?kF ?kK ?k6 ?k7 ?k8 ?k9 ?kB ?_ ?c2 ?c3 ?c4 ?c5; (case kA => exact rfl); (case kF => exact rfl); (case kK => first | assumption | exact rfl); (case k1 => k_asm); (case k2 => k_asm); (case k3 => k_asm); (case k4 => k_asm); (case k5 => k_asm); (case k6 => k_is); (case k7 => k_is); (case k8 => k_room); (case k9 => first | exact BindsTo.of_eq rfl | exact binds_K (by k_in) rfl (by k_is) rfl rfl rfl | fail "k_enter: no rule for these arguments"); (case c5 => decide); (case kB => exact locs rfl); (case c2 => exact rfl); (case c3 => exact rfl); (case c4 => exact rfl); k_whole; intro g' L' h' FG' F' N' B' X' T'; (try dsimp only); (try k_lift B'); (try k_fold)))
local macro_rules | `(tactic| k_all) => `(tactic| (refine ne_of_below (by assumption) ?_; first | exact Nat.le_refl _ | omega))
local macro_rules | `(tactic| k_mem) => `(tactic| first | exact List.Mem.head _ | (refine List.Mem.tail _ ?_; k_mem) | assumption)
section
variable {w : World} {A : Around} {E : Value → Shared → Prop} {R : Result → Shared → Prop} {hp : Heap} {g : Array GenState} {d : Drawn} {t : Nat} {os : OsState}
theorem lz_new {x : Str} {tx : Tok} (hx : x.length ≤ 100) (hC : hp.get? 523 = some lz523)
    (hq : R (.ok (.ret (.ref (hp.objs.size + 1)))) ⟨(hp.push emptyDict).push (lzObj hp.objs.size x t), g, d, t + 1, os⟩) :
    codeAny (model theProg w) A (.builtin "str.__new__" ⟨[.ref 523, .str x tx], []⟩) R ⟨hp, g, d, t, os⟩ := by
  refine codeAny_builtin PySem.F.entry_str_new ?_
  unfold Builtin.«str.__new__»
  repeat (first | with_reducible refine wpAny_loadPart_at hC ?_ | (with_reducible refine wpAny_isSubtype_exc hC ?_; rw [show (Value.ref 523 :: [Value.type "str", Value.type "object"]).contains (.type "str") = true from by decide]) | wp_step)
  show wpAny _ _ (alloc emptyDict >>= fun x => pure (some x)) _ _ _
  refine wpAny_bind (wpAny_alloc (wpAny_pure ?_))
  have hC1 := Heap.get?_push_of_some emptyDict hC
  have hz : ¬ x.length > sizeLine := by rw [sizeLine_eq]; omega
  have hl : ∀ k, (Data.prim (Value.str x k)).pastItsLine = none := fun k => by
    unfold Data.pastItsLine
    simp only [hz, if_false]
  repeat (first | with_reducible refine wpAny_loadPart_at hC1 ?_ | (rw [hl]; dsimp only) | wp_step)
  show R _ _
  rw [Heap.size_push]
  exact hq
theorem lz_call {x : Str} {tx : Tok} {Q : Fin → Shared → Prop} (hx : x.length ≤ 100) (X : (hd.heap_39 w.params).In hp) (hi : findIn (hd.heap_39 w.params) (.ref 523) "__init__" = some (some (.builtin "object.__init__"))) (hm : mroIn (hd.heap_39 w.params) 523 (.type "object") = some true)
    (h : Q (.done (.ret (.ref (hp.objs.size + 1)))) ⟨(hp.push emptyDict).push (lzObj hp.objs.size x t), g, d, t + 1, os⟩) :
    wpAny (model theProg w) A (Builtin.«type.__call__» ⟨[.ref 523, .str x tx], []⟩) Q E ⟨hp, g, d, t, os⟩ := by
  have hC := lz_lookup X
  repeat (first | with_reducible refine wpAny_loadPart_at hC ?_ | with_reducible refine wpAny_madeBy_exc hC ?_ | wp_step)
  refine codeAny_call_builtin_code (Code.quiet_builtin _ (by decide +kernel)) (lz_check hC ?_)
  refine lz_new hx hC ?_
  show wpAny _ _ _ _ _ _
  have k : ∀ b o, hp.get? b = some o → ((hp.push emptyDict).push (lzObj hp.objs.size x t)).get? b = some o := fun b o e => Heap.get?_push_of_some _ (Heap.get?_push_of_some _ e)
  have X₁ := X.keeps k
  have hC₁ := lz_lookup X₁
  have hget : ((hp.push emptyDict).push (lzObj hp.objs.size x t)).get? (hp.objs.size + 1) = some (lzObj hp.objs.size x t) := by heap_get
  have hcC : (Value.ref 523 :: [Value.type "str", Value.type "object"]).contains (.ref 523) = true := by decide
  have hcO : (Value.ref 523 :: [Value.type "str", Value.type "object"]).contains (.type "object") = true := by decide
  unfold isInstance
  repeat (first | with_reducible refine wpAny_loadPart_at hget ?_ | (with_reducible refine wpAny_isSubtype_exc hC₁ ?_; rw [hcC]) | wp_step)
  show wpAny _ _ (typeLookup (.ref 523) _) _ _ _
  refine (looks_findIn X₁ hi).at ?_
  dsimp only
  refine wpAny_holding (wpAny_bind (wpAny_of_eq (oi_bind _) ?_))
  dsimp only
  have t1 : Looks (model theProg w) ((hp.push emptyDict).push (lzObj hp.objs.size x t)) (typeOf (.ref (hp.objs.size + 1))) (.ref 523) := (Looks.ld hget).andThen .now
  have t2 : Looks (model theProg w) ((hp.push emptyDict).push (lzObj hp.objs.size x t)) (isInstance (.ref (hp.objs.size + 1)) (.type "object")) true := t1.andThen (looks_mroIn X₁ hm)
  have ha : argsOk "object.__init__" ⟨[.ref (hp.objs.size + 1), .str x tx], []⟩ := by unfold argsOk; kernel_rfl
  have hl := looks_findIn (M := model theProg w) X₁ hi
  refine wpAny_bind (wpAny_call (codeAny_call_builtin oi_plain entry_oi (@check_slot (model theProg w) _ _ _ "object.__init__" "object" "__init__" (.ref (hp.objs.size + 1)) [.str x tx] [] _ oi_kind oi_split t2 ha ?_)))
  unfold Builtin.«object.__init__»
  repeat (first | with_reducible refine wpAny_loadPart_at hget ?_ | with_reducible refine Looks.at hl ?_ | with_reducible refine wpAny_madeBy_exc hC₁ ?_ | wp_step)
  exact h
end
theorem lz_made (w : World) (news : Led) (x : Str) (tx : Tok) (hx : x.length ≤ 100) :
    Does w 20 100 (call (.ref 523) [.str x tx]) news fun r news' => ∃ a d k, r = .ref a ∧ (a, lzObj d x k) ∈ news' ∧ (d, dictOf [] 0) ∈ news' ∧ (∀ z ∈ news, z ∈ news') ∧ (∀ z ∈ news, z.1 < d) ∧ d < a := by
  have hi : findIn (hd.heap_39 w.params) (.ref 523) "__init__" = some (some (.builtin "object.__init__")) := by
    refine kf ?_; k_fill; intro _; k_is
  have hm : mroIn (hd.heap_39 w.params) 523 (.type "object") = some true := by
    refine kf ?_; k_fill; intro _; k_is
  intro dp un gd cn cs a ccd cl outer A₀ base h₀ L m s loose mean mg mb Q E B F X₀ N T hk hdp hun hret
  have X := X₀.keeps F.keep
  obtain ⟨hp, g, d, t, os⟩ := s
  have f1 := tc_lookup
  have f2 := tc_bind (.ref 523)
  have hC := lz_lookup X
  have hT : (⟨hp, g, d, t, os⟩ : Shared).TypeIs (.ref 523) "type" := ⟨_, hC, rfl⟩
  refine wpAny_call (codeAny_of_tree ?_)
  show wpAny _ _ (callAny (.ref 523) _) _ _ _
  repeat (any_goals (first | assumption | with_reducible refine wpAny_loadPart_at hC ?_ | wp_step))
  refine ⟨rfl, ?_⟩
  have N1 := N.push F emptyDict
  have N2 := N1.push (F.push _) (lzObj hp.objs.size x t)
  rw [Heap.size_push] at N2
  refine codeAny_call_builtin_at (Code.quiet_builtin _ (by decide +kernel)) entry_typeCall (wpAny_check_type_call_sub hC (lz_call hx X hi hm ?_))
  exact hret _ _ _ _ ((F.push _).push _) N2 ⟨_, _, _, rfl, .head _, .tail _ (.head _), fun z hz => .tail _ (.tail _ hz), fun p hq => Heap.lt_size (N p hq).1, Nat.lt_succ_self _⟩
end
section
theorem off_Ls : True := by
  w_top off
  exact True.intro
theorem unr_Ls {a b : Nat} (h : a < b) : a < b := h
local macro_rules | `(tactic| k_room) => `(tactic| ((try simp only [depth_under_make, depth_under_kw, depth_in1, depth_deeper, depth_caller]); (try dsimp only [ktrTop]); (try simp only [recursionLimit]); omega))
local macro_rules | `(tactic| k_units) => `(tactic| ((try simp only [units_in1, units_deeper, Around.mark_units, units_caller]); (try dsimp only [ktrTop]); (try simp only [cLine]); omega))
local macro_rules | `(tactic| k_enter) => `(tactic| (refine' code_def ?k1 ?k2 ?k3 ?k4 ?k5 ?kA ?kF ?kK ?k6 ?k7 ?k8 ?k9 ?kB ?_ ?c2 ?c3 ?c4 ?c5; (case kA => exact rfl); (case kF => exact rfl); (case kK => first | assumption | exact rfl); (case k1 => k_asm); (case k2 => k_asm); (case k3 => k_asm); (case k4 => k_asm); (case k5 => k_asm); (case k6 => k_is); (case k7 => k_is); (case k8 => k_room); (case k9 => first | exact BindsTo.of_eq rfl | exact binds_K (by k_in) rfl (by k_is) rfl rfl rfl | fail "k_enter: no rule for these arguments"); (case c5 => decide); (case kB => exact locs rfl); (case c2 => exact rfl); (case c3 => exact rfl); (case c4 => exact rfl); k_whole; intro g' L' h' FG' F' N' B' X' T'; (try dsimp only); (try k_lift B'); (try k_fold)))
local macro_rules | `(tactic| k_all) => `(tactic| (refine ne_of_below (by assumption) ?_; first | exact Nat.le_refl _ | omega))
local macro_rules | `(tactic| k_mem) => `(tactic| first | exact List.Mem.head _ | (refine List.Mem.tail _ ?_; k_mem) | assumption)
open Builtin Builtin.Str
section
variable {w : World} {A : Around} {E : Value → Shared → Prop} {s : Shared} {x d : Addr} {nm : Str} {tx : Tok}
theorem ss_kind : builtinKind "str.__str__" = some .slot := by decide +kernel
theorem ss_split : splitId "str.__str__" = some ("str", "__str__") := by decide +kernel
theorem lz_dunder {Q : Value → Shared → Prop} (hnm : nm.length ≤ 100) (X : (hd.heap_39 w.params).In s.heap) (hx : s.heap.get? x = some (lzObj d nm tx)) (hm : mroIn (hd.heap_39 w.params) 523 (.type "str") = some true)
    (h : Q (.str nm s.toks) { s with toks := s.toks + 1 }) : wpAny (model theProg w) A (call (.builtin "str.__str__") [.ref x]) Q E s := by
  have t1 : Looks (model theProg w) s.heap (typeOf (.ref x)) (.ref 523) := (Looks.ld hx).andThen .now
  have t2 : Looks (model theProg w) s.heap (isInstance (.ref x) (.type "str")) true := t1.andThen (looks_mroIn X hm)
  have hz : ¬ nm.length > sizeLine := by rw [sizeLine_eq]; omega
  refine wpAny_call (codeAny_call_builtin F.slot_str_str.plain F.entry_str_str (@check_slot (model theProg w) _ _ _ "str.__str__" "str" "__str__" (.ref x) [] [] _ ss_kind ss_split t2 (F.args_str_str_1 _) ?_))
  show wpAny _ _ ((textOf (.ref x) >>= fun q => pure (Value.ref x, q, ([] : List Value))) >>= fun p => strUnchanged p.1 p.2.1 >>= fun v => ret v) _ _ _
  refine wpAny_bind (wpAny_bind (wpAny_bind ?_))
  show wpAny _ _ (load x >>= _) _ _ _
  refine wpAny_bind (wpAny_load hx ?_)
  refine wpAny_pure (wpAny_pure (wpAny_pure ?_))
  show wpAny _ _ (mkStr nm >>= _) _ _ _
  exact wpAny_bind (wpAny_mkStr (hx := Nat.not_lt.mp hz) (wpAny_pure h))
theorem lz_str {Q : Value → Shared → Prop} (hu : A.in1.in1.units < cLine) (hnm : nm.length ≤ 100) (X : (hd.heap_39 w.params).In s.heap) (hx : s.heap.get? x = some (lzObj d nm tx)) (hm : mroIn (hd.heap_39 w.params) 523 (.type "str") = some true) (hs : findIn (hd.heap_39 w.params) (.ref 523) "__str__" = some (some (.builtin "str.__str__")))
    (h : ∀ k, Q (.str nm s.toks) { s with toks := k }) : wpAny (model theProg w) A (call (.type "str") [.ref x]) Q E s := by
  refine callType_codes (T := "str") (Bi := Builtin.«object.__init__») (Q₁ := fun r s₁ => ∃ y u, r = .str y u ∧ Q r s₁) PySem.F.called_str (PySem.F.typeCall_str_1 _) PySem.F.entry_object_init ?_ ?_
  · refine codeAny_of_tree ?_
    show wpAny _ A.in1.in1 (do checkBuiltinCall "str.__new__" ⟨[.type "str", .ref x], []⟩; again (.builtin "str.__new__" ⟨[.type "str", .ref x], []⟩)) _ _ s
    refine wpAny_bind (wpAny_of_eq (PySem.F.newCall_str_1 _) (wpAny_pure ⟨plainId_quiet (by decide +kernel) _, codeAny_builtin PySem.F.entry_str_new ?_⟩))
    rw [Around.under_plainId (by decide +kernel) _]
    rw [str_new_tree]
    refine wpAny_bind (wpAny_pure ?_)
    refine wpAny_bind (wpAny_of_eq isSubtype_str_str ?_)
    have t1 : Looks (model theProg w) s.heap (typeOf (.ref x)) (.ref 523) := (Looks.ld hx).andThen .now
    refine wpAny_bind (wpAny_mono (Q := fun r s₁ => ∃ y u, r = .str y u ∧ Q r s₁) ?_ (fun r s₁ hr => wpAny_pure hr) fun _ _ y => y)
    unfold PySem.Builtin.Str.strOf
    rw [show isExactStr (.ref x) = false from rfl]
    refine wpAny_bind (m := cRoomFor _ _) (wpAny_cRoomFor hu ?_)
    refine wpAny_bind (m := callSpecial? (.ref x) (Str.ofString "__str__")) ?_
    refine wpAny_bind (wpAny_bind (t1.here ((looks_findIn X hs).here (wpAny_holding (wpAny_bind (wpAny_of_eq (F.slot_str_str.bind _) (wpAny_bind (lz_dunder hnm X hx hm (wpAny_pure ?_)))))))))
    exact wpAny_pure ⟨_, _, rfl, h _⟩
  · rintro obj s₁ ⟨y, u, rfl, hq⟩
    exact ⟨typeIs_str _ _ _, PySem.F.args_object_init_2 _ _, object_init_meets PySem.F.called_str.init.lookup PySem.F.called_str.made (by decide) theProg w A.in1 _ s₁ ⟨typeIs_str _ _ _, rfl, hq⟩⟩
end
end
section
theorem off_Lc : True := by
  w_top off
  exact True.intro
local macro_rules | `(tactic| walk_at "off 0") => `(tactic| fail)
theorem unr_Lc {a b : Nat} (h : a < b) : a < b := h
local macro_rules | `(tactic| k_room) => `(tactic| ((try simp only [depth_under_make, depth_under_kw, depth_in1, depth_deeper, depth_caller]); (try dsimp only [ktrTop]); (try simp only [recursionLimit]); omega))
local macro_rules | `(tactic| k_units) => `(tactic| ((try simp only [units_in1, units_deeper, Around.mark_units, units_caller]); (try dsimp only [ktrTop]); (try simp only [cLine]); omega))
local macro_rules | `(tactic| k_enter) => `(tactic| (refine' code_def ?k1 ?k2 ?k3 ?k4 ?k5 ?kA ?kF ?kK ?k6 ?k7 ?k8 ?k9 ?kB ?_ ?c2 ?c3 ?c4 ?c5; (case kA => exact rfl); (case kF => exact rfl); (case kK => first | assumption | exact rfl); (case k1 => k_asm); (case k2 => k_asm); (case k3 => k_asm); (case k4 => k_asm); (case k5 => k_asm); (case k6 => k_is); (case k7 => k_is); (case k8 => k_room); (case k9 => first | exact BindsTo.of_eq rfl | exact binds_K (by k_in) rfl (by k_is) rfl rfl rfl | fail "k_enter: no rule for these arguments"); (case c5 => decide); (case kB => exact locs rfl); (case c2 => exact rfl); (case c3 => exact rfl); (case c4 => exact rfl); k_whole; intro g' L' h' FG' F' N' B' X' T'; (try dsimp only); (try k_lift B'); (try k_fold)))
local macro_rules | `(tactic| k_all) => `(tactic| (refine ne_of_below (by assumption) ?_; first | exact Nat.le_refl _ | omega))
local macro_rules | `(tactic| k_mem) => `(tactic| first | exact List.Mem.head _ | (refine List.Mem.tail _ ?_; k_mem) | assumption)
local macro_rules | `(tactic| walk_at "call ref") => `(tactic| (k_here; k_dflt (first
 | ((with_reducible show wpAny _ _ (call (Value.ref 489) [_] _) _ _ _); refine' Does.use (look_new _ _ _) ?B ?F ?X ?N ?T ?k ?d ?u ?_; (case B => k_asm); (case F => k_asm); (case X => k_asm); (case N => k_asm); (case T => k_asm); (case k => first | assumption | exact rfl); (case d => k_room); (case u => k_units); intro r9 n9 h9 t9 F9 N9 R9; (try dsimp only); (try k_fold); refine stop ?_)
 | ((with_reducible show wpAny _ _ (call (Value.ref 425) [_] _) _ _ _); refine' Does.use (seq1k_new _ _ _ _ _) ?B ?F ?X ?N ?T ?k ?d ?u ?_; (case B => k_asm); (case F => k_asm); (case X => k_asm); (case N => k_asm); (case T => k_asm); (case k => first | assumption | exact rfl); (case d => k_room); (case u => k_units); intro r9 n9 h9 t9 F9 N9 R9; (try dsimp only); (try k_fold); refine stop ?_)
 | ((with_reducible show wpAny _ _ (call (Value.ref 425) [_, _] _) _ _ _); refine' Does.use (seq2k_new _ _ _ _ _ _) ?B ?F ?X ?N ?T ?k ?d ?u ?_; (case B => k_asm); (case F => k_asm); (case X => k_asm); (case N => k_asm); (case T => k_asm); (case k => first | assumption | exact rfl); (case d => k_room); (case u => k_units); intro r9 n9 h9 t9 F9 N9 R9; (try dsimp only); (try k_fold); refine stop ?_)
 | ((with_reducible show wpAny _ _ (call (Value.ref 425) [_, _, _] _) _ _ _); refine' Does.use (seq3k_new _ _ _ _ _ _ _) ?B ?F ?X ?N ?T ?k ?d ?u ?_; (case B => k_asm); (case F => k_asm); (case X => k_asm); (case N => k_asm); (case T => k_asm); (case k => first | assumption | exact rfl); (case d => k_room); (case u => k_units); intro r9 n9 h9 t9 F9 N9 R9; (try dsimp only); (try k_fold); refine stop ?_)
 | ((with_reducible show wpAny _ _ (call (Value.ref 451) [_] _) _ _ _); refine' Does.use (one1k_new _ _ _ _ _) ?B ?F ?X ?N ?T ?k ?d ?u ?_; (case B => k_asm); (case F => k_asm); (case X => k_asm); (case N => k_asm); (case T => k_asm); (case k => first | assumption | exact rfl); (case d => k_room); (case u => k_units); intro r9 n9 h9 t9 F9 N9 R9; (try dsimp only); (try k_fold); refine stop ?_)
 | ((with_reducible show wpAny _ _ (call (Value.ref 451) [_, _] _) _ _ _); refine' Does.use (one2k_new _ _ _ _ _ _) ?B ?F ?X ?N ?T ?k ?d ?u ?_; (case B => k_asm); (case F => k_asm); (case X => k_asm); (case N => k_asm); (case T => k_asm); (case k => first | assumption | exact rfl); (case d => k_room); (case u => k_units); intro r9 n9 h9 t9 F9 N9 R9; (try dsimp only); (try k_fold); refine stop ?_)
 | ((with_reducible show wpAny _ _ (call (Value.ref 451) [_, _, _] _) _ _ _); refine' Does.use (one3k_new _ _ _ _ _ _ _) ?B ?F ?X ?N ?T ?k ?d ?u ?_; (case B => k_asm); (case F => k_asm); (case X => k_asm); (case N => k_asm); (case T => k_asm); (case k => first | assumption | exact rfl); (case d => k_room); (case u => k_units); intro r9 n9 h9 t9 F9 N9 R9; (try dsimp only); (try k_fold); refine stop ?_))))
theorem item_led {prog : Program} {w : World} {A : Around} {E : Value → Shared → Prop} {s : Shared} {h₀ : Heap} {L l : Addr} {news : Led} {items : Array Value} {k : Nat} {value slice : PySem.Expr} {i : Int} {u : Tok} {x : Value} {Q : Value → Shared → Prop} (N : News h₀ L s.heap news) (hm : (l, W.listOf items k) ∈ news)
    (h0 : 0 ≤ i) (hfit : i < 2 ^ 63) (hx : items[i.toNat]? = some x) (h : Q x s)
    (hs : subscripted slice false (.ref l) (.int i u) = operate [.ref l, .int i u] (getItem (.ref l) (.int i u)) := by with_unfolding_all rfl) (hg : ∀ r, letTemporaryGo value (.ref l) r = pure () := by intro _; with_unfolding_all rfl) :
    wpAny (model prog w) A (subscriptTail value slice (.ref l) (.int i u)) Q E s := PyProof.Rows.item_list ⟨_, (N _ hm).1, rfl, _, rfl⟩ h0 hfit hx h hs hg
local macro_rules | `(tactic| walk_at "subscriptTail") => `(tactic| (k_here; k_dflt (refine' item_led ?N ?m ?a ?b ?x ?_; (case N => k_asm); (case m => k_mem); (case a => decide); (case b => decide); (case x => exact rfl))))
theorem not_new (w : World) (news : Led) (x : Addr) :
    Does w 60 300 (call (.ref 499) [.ref x]) news fun r news' => ∃ y d idt nt t k, r = .ref y ∧ Made news news' y d ⟨.ref 489, some d, .plain, #[some (.bool true), some (.ref t), some idt, some (.str (Str.ofString "") nt)]⟩ ∧ (t, tupO [.ref x] k) ∈ news' ∧ ∀ z ∈ news, z.1 < t := by
  unfold Does
  k_fill
  intro dp un gd cn cs a ccd cl outer A₀ base h₀ L m s loose mean mg mb Q E B F X N T hk hdp hun hret
  refine wpAny_call ?_
  k_enter
  k_steps
  refine unstop ?_
  rename_i r9 n9 h9 t9 F9 N9 R9
  obtain ⟨y, d, idt, nt, t, k, rfl, hM, ht⟩ := R9
  k_steps
  exact hret _ _ _ _ (by assumption) (by assumption) ⟨y, d, idt, nt, t, k, rfl, hM, ht⟩
theorem law_choice1 (w : World) (news : Led) (rows a1 : Addr) (kr : Nat) (name : Str) (tn : Tok) (hr : (rows, W.listOf #[.ref a1] kr) ∈ news) :
    Does w 60 300 (call (.ref 546) [.ref rows, .str name tn]) news fun r news' => ∃ x d idt nt t k, r = .ref x ∧ Made news news' x d ⟨.ref 451, some d, .plain, #[some (.ref t), some idt, some (.str name nt)]⟩ ∧ (t, tupO [.ref a1] k) ∈ news' ∧ ∀ z ∈ news, z.1 < t := by
  unfold Does
  k_fill
  intro dp un gd cn cs a ccd cl outer A₀ base h₀ L m s loose mean mg mb Q E B F X N T hk hdp hun hret
  refine wpAny_call ?_
  k_enter
  k_steps
  refine unstop ?_
  rename_i r9 n9 h9 t9 F9 N9 R9
  obtain ⟨y, d, idt, nt, t, k, rfl, hM, ht⟩ := R9
  k_steps
  exact hret _ _ _ _ (by assumption) (by assumption) ⟨y, d, idt, nt, t, k, rfl, hM, ht⟩
theorem law_choice2 (w : World) (news : Led) (rows a1 a2 : Addr) (kr : Nat) (name : Str) (tn : Tok) (hr : (rows, W.listOf #[.ref a1, .ref a2] kr) ∈ news) :
    Does w 60 300 (call (.ref 546) [.ref rows, .str name tn]) news fun r news' => ∃ x d idt nt t k, r = .ref x ∧ Made news news' x d ⟨.ref 451, some d, .plain, #[some (.ref t), some idt, some (.str name nt)]⟩ ∧ (t, tupO [.ref a1, .ref a2] k) ∈ news' ∧ ∀ z ∈ news, z.1 < t := by
  unfold Does
  k_fill
  intro dp un gd cn cs a ccd cl outer A₀ base h₀ L m s loose mean mg mb Q E B F X N T hk hdp hun hret
  refine wpAny_call ?_
  k_enter
  k_steps
  refine unstop ?_
  rename_i r9 n9 h9 t9 F9 N9 R9
  obtain ⟨y, d, idt, nt, t, k, rfl, hM, ht⟩ := R9
  k_steps
  exact hret _ _ _ _ (by assumption) (by assumption) ⟨y, d, idt, nt, t, k, rfl, hM, ht⟩
theorem law_choice3 (w : World) (news : Led) (rows a1 a2 a3 : Addr) (kr : Nat) (name : Str) (tn : Tok) (hr : (rows, W.listOf #[.ref a1, .ref a2, .ref a3] kr) ∈ news) :
    Does w 60 300 (call (.ref 546) [.ref rows, .str name tn]) news fun r news' => ∃ x d idt nt t k, r = .ref x ∧ Made news news' x d ⟨.ref 451, some d, .plain, #[some (.ref t), some idt, some (.str name nt)]⟩ ∧ (t, tupO [.ref a1, .ref a2, .ref a3] k) ∈ news' ∧ ∀ z ∈ news, z.1 < t := by
  unfold Does
  k_fill
  intro dp un gd cn cs a ccd cl outer A₀ base h₀ L m s loose mean mg mb Q E B F X N T hk hdp hun hret
  refine wpAny_call ?_
  k_enter
  k_steps
  refine unstop ?_
  rename_i r9 n9 h9 t9 F9 N9 R9
  obtain ⟨y, d, idt, nt, t, k, rfl, hM, ht⟩ := R9
  k_steps
  exact hret _ _ _ _ (by assumption) (by assumption) ⟨y, d, idt, nt, t, k, rfl, hM, ht⟩
theorem law_chain1 (w : World) (news : Led) (rows a1 : Addr) (kr : Nat) (name : Str) (tn : Tok) (hr : (rows, W.listOf #[.ref a1] kr) ∈ news) :
    Does w 60 300 (call (.ref 553) [.ref rows, .str name tn]) news fun r news' => ∃ x d idt nt t k, r = .ref x ∧ Made news news' x d ⟨.ref 425, some d, .plain, #[some (.ref t), some idt, some (.str name nt)]⟩ ∧ (t, tupO [.ref a1] k) ∈ news' ∧ ∀ z ∈ news, z.1 < t := by
  unfold Does
  k_fill
  intro dp un gd cn cs a ccd cl outer A₀ base h₀ L m s loose mean mg mb Q E B F X N T hk hdp hun hret
  refine wpAny_call ?_
  k_enter
  k_steps
  refine unstop ?_
  rename_i r9 n9 h9 t9 F9 N9 R9
  obtain ⟨y, d, idt, nt, t, k, rfl, hM, ht⟩ := R9
  k_steps
  exact hret _ _ _ _ (by assumption) (by assumption) ⟨y, d, idt, nt, t, k, rfl, hM, ht⟩
theorem law_chain2 (w : World) (news : Led) (rows a1 a2 : Addr) (kr : Nat) (name : Str) (tn : Tok) (hr : (rows, W.listOf #[.ref a1, .ref a2] kr) ∈ news) :
    Does w 60 300 (call (.ref 553) [.ref rows, .str name tn]) news fun r news' => ∃ x d idt nt t k, r = .ref x ∧ Made news news' x d ⟨.ref 425, some d, .plain, #[some (.ref t), some idt, some (.str name nt)]⟩ ∧ (t, tupO [.ref a1, .ref a2] k) ∈ news' ∧ ∀ z ∈ news, z.1 < t := by
  unfold Does
  k_fill
  intro dp un gd cn cs a ccd cl outer A₀ base h₀ L m s loose mean mg mb Q E B F X N T hk hdp hun hret
  refine wpAny_call ?_
  k_enter
  k_steps
  refine unstop ?_
  rename_i r9 n9 h9 t9 F9 N9 R9
  obtain ⟨y, d, idt, nt, t, k, rfl, hM, ht⟩ := R9
  k_steps
  exact hret _ _ _ _ (by assumption) (by assumption) ⟨y, d, idt, nt, t, k, rfl, hM, ht⟩
theorem law_chain3 (w : World) (news : Led) (rows a1 a2 a3 : Addr) (kr : Nat) (name : Str) (tn : Tok) (hr : (rows, W.listOf #[.ref a1, .ref a2, .ref a3] kr) ∈ news) :
    Does w 60 300 (call (.ref 553) [.ref rows, .str name tn]) news fun r news' => ∃ x d idt nt t k, r = .ref x ∧ Made news news' x d ⟨.ref 425, some d, .plain, #[some (.ref t), some idt, some (.str name nt)]⟩ ∧ (t, tupO [.ref a1, .ref a2, .ref a3] k) ∈ news' ∧ ∀ z ∈ news, z.1 < t := by
  unfold Does
  k_fill
  intro dp un gd cn cs a ccd cl outer A₀ base h₀ L m s loose mean mg mb Q E B F X N T hk hdp hun hret
  refine wpAny_call ?_
  k_enter
  k_steps
  refine unstop ?_
  rename_i r9 n9 h9 t9 F9 N9 R9
  obtain ⟨y, d, idt, nt, t, k, rfl, hM, ht⟩ := R9
  k_steps
  exact hret _ _ _ _ (by assumption) (by assumption) ⟨y, d, idt, nt, t, k, rfl, hM, ht⟩
theorem law_choiceN (w : World) (news : Led) (rows : Addr) (ss : List Value) (as : List Addr) (hs : ss = as.map .ref) (h1 : 1 ≤ as.length) (h3 : as.length ≤ 3) (kr : Nat) (name : Str) (tn : Tok) (hr : (rows, W.listOf ss.toArray kr) ∈ news) :
    Does w 60 300 (call (.ref 546) [.ref rows, .str name tn]) news fun r news' => ∃ x d idt nt t k, r = .ref x ∧ Made news news' x d ⟨.ref 451, some d, .plain, #[some (.ref t), some idt, some (.str name nt)]⟩ ∧ (t, tupO (as.map .ref) k) ∈ news' ∧ ∀ z ∈ news, z.1 < t := by
  subst hs
  match as, h1, h3, hr with
  | [a1], _, _, hr => exact law_choice1 w news rows a1 kr name tn hr
  | [a1, a2], _, _, hr => exact law_choice2 w news rows a1 a2 kr name tn hr
  | [a1, a2, a3], _, _, hr => exact law_choice3 w news rows a1 a2 a3 kr name tn hr
theorem law_chainN (w : World) (news : Led) (rows : Addr) (ss : List Value) (as : List Addr) (hs : ss = as.map .ref) (h1 : 1 ≤ as.length) (h3 : as.length ≤ 3) (kr : Nat) (name : Str) (tn : Tok) (hr : (rows, W.listOf ss.toArray kr) ∈ news) :
    Does w 60 300 (call (.ref 553) [.ref rows, .str name tn]) news fun r news' => ∃ x d idt nt t k, r = .ref x ∧ Made news news' x d ⟨.ref 425, some d, .plain, #[some (.ref t), some idt, some (.str name nt)]⟩ ∧ (t, tupO (as.map .ref) k) ∈ news' ∧ ∀ z ∈ news, z.1 < t := by
  subst hs
  match as, h1, h3, hr with
  | [a1], _, _, hr => exact law_chain1 w news rows a1 kr name tn hr
  | [a1, a2], _, _, hr => exact law_chain2 w news rows a1 a2 kr name tn hr
  | [a1, a2, a3], _, _, hr => exact law_chain3 w news rows a1 a2 a3 kr name tn hr
end
section
theorem off_Gn1 : True := by
  w_top off
  exact True.intro
theorem unr_Gn1 {a b : Nat} (h : a < b) : a < b := h
local macro_rules | `(tactic| k_room) => `(tactic| ((try simp only [depth_under_make, depth_under_kw, depth_in1, depth_deeper, depth_caller]); (try dsimp only [ktrTop]); (try simp only [recursionLimit]); omega))
local macro_rules | `(tactic| k_units) => `(tactic| ((try simp only [units_in1, units_deeper, Around.mark_units, units_caller]); (try dsimp only [ktrTop]); (try simp only [cLine]); omega))
local macro_rules | `(tactic| k_enter) => `(tactic| (refine' code_def ?k1 ?k2 ?k3 ?k4 ?k5 ?kA ?kF ?kK ?k6 ?k7 ?k8 ?k9 ?kB ?_ ?c2 ?c3 ?c4 ?c5; (case kA => exact rfl); (case kF => exact rfl); (case kK => first | assumption | exact rfl); (case k1 => k_asm); (case k2 => k_asm); (case k3 => k_asm); (case k4 => k_asm); (case k5 => k_asm); (case k6 => k_is); (case k7 => k_is); (case k8 => k_room); (case k9 => first | exact BindsTo.of_eq rfl | exact binds_K (by k_in) rfl (by k_is) rfl rfl rfl | fail "k_enter: no rule for these arguments"); (case c5 => decide); (case kB => exact locs rfl); (case c2 => exact rfl); (case c3 => exact rfl); (case c4 => exact rfl); k_whole; intro g' L' h' FG' F' N' B' X' T'; (try dsimp only); (try k_lift B'); (try k_fold)))
local macro_rules | `(tactic| k_all) => `(tactic| (refine ne_of_below (by assumption) ?_; first | exact Nat.le_refl _ | omega))
local macro_rules | `(tactic| k_mem) => `(tactic| first | exact List.Mem.head _ | (refine List.Mem.tail _ ?_; k_mem) | assumption)
section
variable {M : Model} {A : Around} {E : Value → Shared → Prop} {s : Shared}
theorem genexprCode_tab {env : Env} {c P : Addr} {ps : Array Value} {pos : Pos} {qualname : Str} {scope : Scope} {Q : Value → Shared → Prop} (hc : env.code = .ref c) (C : CodeHd s.heap c P) (hP : s.heap.get? P = some (tabObj ps)) (ht : TriplesOk ps.toList)
    (hQ : ∀ code h' tk ps', Heap.ExtBut P s.heap h' → h'.get? P = some (tabObj ps') → TriplesOk ps'.toList → Q code { s with heap := h', toks := tk }) :
    wpAny M A (genexprCode env pos qualname scope) Q E s := by
  obtain ⟨o, vs, file, tf, flags, tg, inF, text, tt, ho, _, hd, _, h11, h2, h7, h9, h10, hne⟩ := C
  unfold genexprCode PySem.codeAt
  rw [hc, if_neg (show ¬ ((Value.ref c == Value.none) = true) from Bool.false_ne_true)]
  refine wpAny_bind (wpAny_fieldsOf ho hd ?_)
  rw [h11]
  refine wpAny_bind (wpAny_fieldsOf hP rfl ?_)
  cases hnf : codeAmong pos ps.toList with
  | some cv => exact wpAny_pure (hQ cv s.heap s.toks ps (Heap.ExtBut.refl _ _) hP ht)
  | none =>
    rw [h2, h7, h9, h10]
    refine wpAny_bind (wpAny_newCode fun c' P' h' tk hk hc' hP' hcode' hrec' => ?_)
    have hop' := hk _ _ hP
    refine wpAny_bind (wpAny_updateFieldsOfTheText hop' rfl ?_)
    have hget := Heap.get?_update_self (h := h') (fun o => Obj.mapFields (fun vs => if (codeAmong pos vs.toList).isSome = true then vs else
      vs ++ #[rawInt pos.line, rawInt pos.col, .ref c']) o) hop' rfl
    have e : (Obj.mapFields (fun vs => if (codeAmong pos vs.toList).isSome = true then vs else vs ++ #[rawInt pos.line, rawInt pos.col, .ref c']) (tabObj ps)) = tabObj (ps ++ #[rawInt pos.line, rawInt pos.col, .ref c']) := by
      show tabObj (if (codeAmong pos ps.toList).isSome = true then ps else ps ++ #[rawInt pos.line, rawInt pos.col, .ref c']) = _
      rw [hnf]; rfl
    rw [e] at hget
    refine wpAny_bind (wpAny_fieldsOf hget rfl ?_)
    have hl : (ps ++ #[rawInt pos.line, rawInt pos.col, Value.ref c']).toList = ps.toList ++ [rawInt pos.line, rawInt pos.col, .ref c'] := by simp
    rw [hl, codeAmong_snoc _ ht hnf]
    exact wpAny_pure (hQ _ _ _ (ps ++ #[rawInt pos.line, rawInt pos.col, .ref c']) (fun b o' hb e => ((Heap.SameBut.update ..).extBut b o' hb (hk b o' e))) hget (by rw [hl]; exact TriplesOk_snoc _ _ _ _ ht))
end
abbrev tupIter (t : Addr) (i : Nat) : Obj := { cls := .type "tuple_iterator", data := .fields #[.ref t, .int i 0] }
abbrev genObj (gn : Nat) (t1 t2 : Tok) (q : Str) : Obj := { cls := .type "generator", data := .fields #[.int gn 0, .str "<genexpr>" t1, .str q t2] }
/-- a generator over a tuple stands, and its ground -/
def GenUp (K : Frag) (p : Program) (loose : List Str) (mean : ExcName → Option Value) (mg mb : Str → Option Value) (A : Around) (base h₀ : Heap) (env : Env) (outer : List Env) (L : Addr) (m : Str → Option Value) (P t : Addr) (news : Led) (elt iter : PySem.Expr) (x : Str) (px : Pos) (scope : Scope) (cl : List (Str × Addr)) (pos : Pos) (a : Addr) (s₁ s' : Shared) : Prop :=
  ∃ (g : Heap) (I C : Addr) (code : Value) (ps' : Array Value) (t1 t2 : Tok), Fr h₀ L g m ∧ Below A base (env :: outer) g ∧ K.In g ∧ Top p loose mean mg mb g ∧ Fr g C s'.heap (fun y => if y = ".0" then some (.ref I) else none) ∧
    News g C s'.heap ((a, genObj s₁.gens.size t1 t2 (env.qual ++ "<genexpr>")) :: (I, tupIter t 0) :: (P, tabObj ps') :: news) ∧ TriplesOk ps'.toList ∧ I < C ∧ C < a ∧ (∀ q ∈ news, q.1 < I) ∧ P < I ∧
    ∃ h' tk, s' = { s₁ with heap := h', toks := tk, gens := s₁.gens.push (.fresh (.compStart (.GeneratorExp elt [⟨.Name x px, iter, [], 0⟩] scope pos) 0 (.ref I) .none (genEnv scope cl C code builtinsNs env))) }
section
variable {prog : Program} {w : World} {A A₀ : Around} {E : Value → Shared → Prop} {s : Shared} {h₀ base : Heap} {outer : List Env} {L c P : Addr} {m mg mb : Str → Option Value} {env : Env} {news : Led} {K : Frag} {p : Program} {loose : List Str} {mean : ExcName → Option Value}
theorem gen_eval {elt iter : PySem.Expr} {x : Str} {px : Pos} {scope : Scope} {cl : List (Str × Addr)} {pos : Pos} {ps : Array Value} {Q : Value → Shared → Prop} (_F : Fr h₀ L s.heap m) (B : Below A₀ base outer h₀) (X : K.In h₀) (T : Top p loose mean mg mb h₀)
    (hA : A.frames = some (env :: outer)) (hf : env.frame = some L) (hke : env.scope.kind = .function) (hge : env.globals = mainGlobals) (hroom : A.depth < recursionLimit)
    (hcode : env.code = .ref c) (C : CodeHd h₀ c P) (ht : TriplesOk ps.toList) (hn : ∀ q ∈ news, q.1 ≠ P)
    (hco : scope.isCoroutine = false) (hclos : closureFor scope env = pure cl) (hcell : ∀ y ∈ scope.names, y.2 ≠ .cell) (h0 : scope.names.lookup (".0" : Str) = some NameKind.local) (hkind : scope.kind = .function)
    (h : wpAny (model prog w) A (eval iter env) (fun xv s₁ => Stop <| ∃ t vs k, xv = .ref t ∧ Fr h₀ L s₁.heap m ∧ News h₀ L s₁.heap ((P, tabObj ps) :: news) ∧ (t, tupO vs k) ∈ news ∧
      ∀ a s', GenUp K p loose mean mg mb A base h₀ env outer L m P t news elt iter x px scope cl pos a s₁ s' → Q (.ref a) s') E s)
    (hs : ∀ x, genFold iter env x = pure x) :
    wpAny (model prog w) A (eval (.GeneratorExp elt [⟨.Name x px, iter, [], 0⟩] scope pos) env) Q E s := by
  refine wpAny_GeneratorExp_make hco hclos hcell h0 hkind hroom (wpAny_mono h (fun xv s₁ h₁ => ?_) fun _ _ e => e) hs
  obtain ⟨t, vs, k, rfl, F, N, hm, hQ⟩ := h₁
  refine wpAny_pyIter_tuple ⟨_, (N _ (.tail _ hm)).1, rfl, _, rfl⟩ ?_
  have lt1 : ∀ q ∈ (P, tabObj ps) :: news, q.1 < s₁.heap.objs.size := fun q hq => Heap.lt_size (N q hq).1
  have F1 := F.push { cls := .type "tuple_iterator", data := .fields #[.ref t, .int 0 0] }
  have N1 := N.push F { cls := .type "tuple_iterator", data := .fields #[.ref t, .int 0 0] }
  refine ⟨T.nolimit.keeps F1.keep, ?_⟩
  have hPg := (N1 (P, tabObj ps) (.tail _ (.head _)))
  have hP0 : h₀.get? P = none := hPg.2.2
  refine genexprCode_tab hcode (C.keeps F1.keep) hPg.1 ht fun code h2 tk2 ps' hx hP' ht' => ?_
  have k2 : ∀ b o, h₀.get? b = some o → h2.get? b = some o := fun b o e => hx b o (fun q => by rw [q, hP0] at e; cases e) (F1.keep b o e)
  have F2 : Fr h₀ L h2 m := ⟨F1.ns.at' fun o e => hx L o (Ne.symm hPg.2.1) e, k2, F1.above⟩
  have N2 : News h₀ L h2 ((s₁.heap.objs.size, tupIter t 0) :: (P, tabObj ps') :: news) := fun q hq => by
    rcases List.mem_cons.mp hq with rfl | hq
    · have z := N1 _ (List.Mem.head _)
      exact ⟨hx _ _ (Ne.symm (Nat.ne_of_lt (lt1 _ (.head _)))) z.1, z.2⟩
    · rcases List.mem_cons.mp hq with rfl | hq
      · exact ⟨hP', hPg.2⟩
      · have z := N1 _ (List.Mem.tail _ (List.Mem.tail _ hq))
        exact ⟨hx _ _ (hn _ hq) z.1, z.2⟩
  obtain ⟨bm, ob, b1, b2, b3, b4, b5, b6⟩ := T.bmain
  rw [hge]
  refine wpAny_builtinsFor (T.g.keeps k2) b1 b2 (k2 _ _ b3) b4 b5 b6 ?_
  intro h4 hns hsb
  obtain ⟨FG, BG, st, -⟩ := groundX (R := fun _ _ => True) (s := { s₁ with heap := h2, toks := tk2 }) B F2 N2 hA hf hke
  have ex : ∀ b o, h2.get? b = some o → h4.get? b = some o := fun b o e => hsb.extBut b o (Nat.ne_of_lt (Heap.lt_size e)) (Heap.get?_push_of_some _ e)
  have ex5 : ∀ (o : Obj) b o', h2.get? b = some o' → (h4.push o).get? b = some o' := fun o b o' e => Heap.get?_push_of_some _ (ex b o' e)
  have hsz : h2.objs.size < h4.objs.size := by
    have e := hns.lt
    exact e
  have lt2 : ∀ q ∈ (s₁.heap.objs.size, tupIter t 0) :: (P, tabObj ps') :: news, q.1 < h2.objs.size := fun q hq => Heap.lt_size (N2 q hq).1
  refine hQ _ _ ⟨_, s₁.heap.objs.size, h2.objs.size, code, ps', tk2 + 1, tk2 + 1 + 1, FG, BG, X.keeps st, T.keeps st, ?_, ?_, ht', lt2 _ (.head _), hsz, fun q hq => lt1 q (.tail _ hq), lt1 _ (.head _), h4.push (genObj s₁.gens.size (tk2 + 1) (tk2 + 1 + 1) (env.qual ++ "<genexpr>")), tk2 + 1 + 1 + 1, ?_⟩
  · refine ⟨hns.push _, fun b o e => ex5 _ b o (of_hideAll _ e), Nat.le_of_eq (hideAll_size _ _)⟩
  · intro q hq
    rcases List.mem_cons.mp hq with rfl | hq
    · refine ⟨Heap.get?_push_size _ rfl, Nat.ne_of_gt hsz, ?_⟩
      refine Heap.get?_none_of_le ?_
      rw [hideAll_size]
      exact Nat.le_of_lt hsz
    · exact ⟨ex5 _ _ _ (N2 q hq).1, Nat.ne_of_lt (lt2 q hq), hideAll_none _ (List.mem_map_of_mem hq)⟩
  · rfl
end
end
section
theorem off_Gn2 : True := by
  w_top off
  exact True.intro
theorem unr_Gn2 {a b : Nat} (h : a < b) : a < b := h
local macro_rules | `(tactic| k_room) => `(tactic| ((try simp only [depth_under_make, depth_under_kw, depth_in1, depth_deeper, depth_caller]); (try dsimp only [ktrTop]); (try simp only [recursionLimit]); omega))
local macro_rules | `(tactic| k_units) => `(tactic| ((try simp only [units_in1, units_deeper, Around.mark_units, units_caller]); (try dsimp only [ktrTop]); (try simp only [cLine]); omega))
local macro_rules | `(tactic| k_enter) => `(tactic| (refine' code_def ?k1 ?k2 ?k3 ?k4 ?k5 ?kA ?kF ?kK ?k6 ?k7 ?k8 ?k9 ?kB ?_ ?c2 ?c3 ?c4 ?c5; (case kA => exact rfl); (case kF => exact rfl); (case kK => first | assumption | exact rfl); (case k1 => k_asm); (case k2 => k_asm); (case k3 => k_asm); (case k4 => k_asm); (case k5 => k_asm); (case k6 => k_is); (case k7 => k_is); (case k8 => k_room); (case k9 => first | exact BindsTo.of_eq rfl | exact binds_K (by k_in) rfl (by k_is) rfl rfl rfl | fail "k_enter: no rule for these arguments"); (case c5 => decide); (case kB => exact locs rfl); (case c2 => exact rfl); (case c3 => exact rfl); (case c4 => exact rfl); k_whole; intro g' L' h' FG' F' N' B' X' T'; (try dsimp only); (try k_lift B'); (try k_fold)))
local macro_rules | `(tactic| k_all) => `(tactic| (refine ne_of_below (by assumption) ?_; first | exact Nat.le_refl _ | omega))
local macro_rules | `(tactic| k_mem) => `(tactic| first | exact List.Mem.head _ | (refine List.Mem.tail _ ?_; k_mem) | assumption)
def LstAt (S : Addr) (ys : List Value) (s : Shared) : Prop := ∃ k, s.heap.get? S = some { cls := .type "list", dict := none, data := .seq ys.toArray k, slots := #[] }
section
variable {prog : Program} {w : World} {A : Around} {E : Value → Shared → Prop} {s : Shared} {S a : Addr} {n : Nat}
theorem extend_inv {res : Value} {R : Result → Shared → Prop} (St : Nat → List Value → Shared → Prop) (Fin : List Value → Shared → Prop) (hn : n ≤ 1000)
    (item : ∀ i ys s, i < n → St i ys s → ∀ (Q : Option Value → Shared → Prop) (E : Value → Shared → Prop), (∀ v s', LstAt S ys s' → (∀ h', Heap.SameBut S s'.heap h' → LstAt S (ys ++ [v]) { s' with heap := h' } → St (i + 1) (ys ++ [v]) { s' with heap := h' }) → Q (some v) s') → wpAny (model prog w) A.in1 (pyNext (.ref a)) Q E s)
    (done : ∀ ys s, St n ys s → ∀ (Q : Option Value → Shared → Prop) (E : Value → Shared → Prop), (∀ s', Fin ys s' → Q none s') → wpAny (model prog w) A.in1 (pyNext (.ref a)) Q E s) :
    ∀ (k i : Nat) (ys : List Value) (s : Shared), n - i = k → i ≤ n → ys.length = i → St i ys s → (∀ ys s', ys.length = n → Fin ys s' → R (.ok (.ret res)) s') →
      codeAny (model prog w) A (.builtin "list.extend.loop" ⟨[.ref S, .ref a, res], []⟩) R s := by
  intro k
  induction k with
  | zero =>
    intro i ys s hk hi hl hst hR
    have hin : i = n := by omega
    subst hin
    refine codeAny_builtin PySem.F.entry_extend_loop ?_
    rw [Around.under_plainId PySem.F.plain_extend_loop _]
    show wpAny _ A.in1 (pyNext (.ref a) >>= _) _ _ s
    refine wpAny_bind (done ys s hst _ _ fun s' hf => ?_)
    exact wpAny_pure (hR ys s' hl hf)
  | succ k ih =>
    intro i ys s hk hi hl hst hR
    have hlt : i < n := by omega
    refine codeAny_builtin PySem.F.entry_extend_loop ?_
    rw [Around.under_plainId PySem.F.plain_extend_loop _]
    show wpAny _ A.in1 (pyNext (.ref a) >>= _) _ _ s
    refine wpAny_bind (item i ys s hlt hst _ _ fun v s' hS hst' => ?_)
    obtain ⟨c, hS⟩ := hS
    have hz : ys.toArray.size ≤ 1000 := by rw [List.size_toArray]; omega
    show wpAny _ A.in1 (updateSeq S (·.push v) >>= _) _ _ _
    refine wpAny_bind ?_
    refine wpAny_updateSeq hS rfl (wpAny_pure ⟨plainId_quiet PySem.F.plain_extend_loop _, ih (i + 1) (ys ++ [v]) _ (by omega) hlt (by rw [List.length_append, hl]; rfl) (hst' _ (Heap.SameBut.update ..) ?_) hR⟩)
      (by rw [sizeLine_eq]; omega) (by show (ys.toArray.push v).size ≤ sizeLine + 1; rw [Array.size_push, sizeLine_eq]; omega)
    have e := Heap.get?_update_self (Obj.mapSeq (·.push v)) hS rfl
    unfold LstAt
    rw [show (ys ++ [v]).toArray = ys.toArray.push v from by simp]
    exact ⟨_, e⟩
theorem collect_inv {gn : Nat} {Q : List Value → Shared → Prop} (St : Nat → List Value → Shared → Prop) (Fin : List Value → Shared → Prop) (hn : n ≤ 1000) (hg : s.heap.IsGen a gn) (hSa : s.heap.objs.size = S)
    (start : ∀ h', (∀ b o, s.heap.get? b = some o → h'.get? b = some o) → LstAt S [] { s with heap := h' } → St 0 [] { s with heap := h' })
    (item : ∀ i ys s, i < n → St i ys s → ∀ (Q : Option Value → Shared → Prop) (E : Value → Shared → Prop), (∀ v s', LstAt S ys s' → (∀ h', Heap.SameBut S s'.heap h' → LstAt S (ys ++ [v]) { s' with heap := h' } → St (i + 1) (ys ++ [v]) { s' with heap := h' }) → Q (some v) s') → wpAny (model prog w) A.in1 (pyNext (.ref a)) Q E s)
    (done : ∀ ys s, St n ys s → ∀ (Q : Option Value → Shared → Prop) (E : Value → Shared → Prop), (∀ s', Fin ys s' → Q none s') → wpAny (model prog w) A.in1 (pyNext (.ref a)) Q E s)
    (fin : ∀ ys s', ys.length = n → Fin ys s' → LstAt S ys s' ∧ Q ys s') : wpAny (model prog w) A (collect (.ref a)) Q E s := by
  subst hSa
  have hIlt : a < s.heap.objs.size := by obtain ⟨o, _, _, ho, _⟩ := hg; exact Heap.lt_size ho
  have hSI : s.heap.objs.size ≠ a := Nat.ne_of_gt hIlt
  unfold collect
  refine wpAny_bind (wpAny_runValue (codeAny_builtin PySem.F.entry_proto_collect ?_))
  rw [Around.under_plainId PySem.F.plain_proto_collect _]
  show wpAny _ A.in1 (newList [] >>= fun l => again (.builtin "list.__iadd__" ⟨[l, .ref a], []⟩)) _ _ s
  refine wpAny_bind (wpAny_newObj_type ?_)
  refine wpAny_pure ⟨plainId_quiet PySem.F.plain_list_iadd _, codeAny_builtin PySem.F.entry_list_iadd ?_⟩
  rw [Around.under_plainId PySem.F.plain_list_iadd _]
  have hg₁ := hg.push { cls := .type "list", data := .seq ([] : List Value).toArray }
  have hT : (({ s with heap := s.heap.push { cls := .type "list", data := .seq ([] : List Value).toArray } } : Shared)).TypeIs (.ref a) "generator" := hg₁.typeIs
  show wpAny _ A.in1 (Builtin.List.listExtendWith (.ref s.heap.objs.size) (.ref a) (.ref s.heap.objs.size)) _ _ _
  unfold Builtin.List.listExtendWith
  refine wpAny_bind (wpAny_typeOf hT ?_)
  have h1 : Builtin.List.listSameRef (.ref s.heap.objs.size) (.ref a) = false := by simp [Builtin.List.listSameRef, hSI]
  have h2 : (Value.type "generator" == Value.type "list") = false := by decide
  have h3 : (Value.type "generator" == Value.type "tuple") = false := by decide
  simp only [h1, h2, h3, Bool.or_false, Bool.false_eq_true, if_false]
  refine wpAny_bind (wpAny_pyIter_gen hg₁ ?_)
  refine wpAny_bind (wpAny_holding ?_)
  unfold Builtin.List.listLengthHint
  refine wpAny_bind (wpAny_specialOf hT PySem.F.gen_no_len ?_)
  show wpAny _ A.in1 (specialOf (Value.ref a) (Str.ofString "__length_hint__") >>= _) _ _ _
  refine wpAny_bind (wpAny_specialOf hT PySem.F.gen_no_hint ?_)
  refine wpAny_pure ?_
  show wpAny _ A.in1 (rule "list.extend.makes-room" >>= fun _ => Builtin.List.listTouch (.ref s.heap.objs.size) >>= fun _ =>
    again (.builtin "list.extend.loop" ⟨[.ref s.heap.objs.size, .ref a, .ref s.heap.objs.size], []⟩)) _ _ _
  refine wpAny_bind (wpAny_rule ?_)
  have hS₁ : (s.heap.push { cls := .type "list", data := .seq ([] : List Value).toArray }).get? s.heap.objs.size = some { cls := .type "list", data := .seq ([] : List Value).toArray } := Heap.get?_push_size _ rfl
  refine wpAny_bind ?_
  show wpAny _ A.in1 (updateSeq s.heap.objs.size (·.push .none) >>= fun _ => updateSeq s.heap.objs.size (·.pop)) _ _ _
  refine wpAny_bind (wpAny_updateSeq hS₁ rfl ?_)
  have hS₂ := Heap.get?_update_self (Obj.mapSeq (·.push Value.none)) hS₁ rfl
  refine wpAny_updateSeq hS₂ rfl ?_
  have hS₃ := Heap.get?_update_self (Obj.mapSeq (·.pop)) hS₂ rfl
  have oth : ∀ b o, s.heap.get? b = some o →
      (((s.heap.push { cls := .type "list", data := .seq ([] : List Value).toArray }).update s.heap.objs.size (Obj.mapSeq (·.push Value.none))).update s.heap.objs.size (Obj.mapSeq (·.pop))).get? b = some o :=
    fun b o e => (Heap.get?_update_other _ _ (Nat.ne_of_gt (Heap.lt_size e))).trans ((Heap.get?_update_other _ _ (Nat.ne_of_gt (Heap.lt_size e))).trans (Heap.get?_push_of_some _ e))
  refine wpAny_pure ⟨plainId_quiet PySem.F.plain_extend_loop _, extend_inv St Fin hn item done n 0 [] _ rfl (Nat.zero_le _) rfl (start _ oth ⟨_, hS₃⟩) fun ys s' hl hf => ?_⟩
  obtain ⟨⟨c, hS'⟩, hq⟩ := fin ys s' hl hf
  show wpAny _ A (load s.heap.objs.size >>= _) _ _ s'
  refine wpAny_bind (wpAny_load hS' ?_)
  have e : ys.toArray.toList = ys := by simp
  refine wpAny_pure ?_
  show Q ys.toArray.toList s'
  rw [e]; exact hq
end
end
section
theorem off_Gn3 : True := by
  w_top off
  exact True.intro
theorem unr_Gn3 {a b : Nat} (h : a < b) : a < b := h
local macro_rules | `(tactic| k_room) => `(tactic| ((try simp only [depth_under_make, depth_under_kw, depth_in1, depth_deeper, depth_caller]); (try dsimp only [ktrTop]); (try simp only [recursionLimit]); omega))
local macro_rules | `(tactic| k_units) => `(tactic| ((try simp only [units_in1, units_deeper, Around.mark_units, units_caller]); (try dsimp only [ktrTop]); (try simp only [cLine]); omega))
local macro_rules | `(tactic| k_enter) => `(tactic| (refine' code_def ?k1 ?k2 ?k3 ?k4 ?k5 ?kA ?kF ?kK ?k6 ?k7 ?k8 ?k9 ?kB ?_ ?c2 ?c3 ?c4 ?c5; (case kA => exact rfl); (case kF => exact rfl); (case kK => first | assumption | exact rfl); (case k1 => k_asm); (case k2 => k_asm); (case k3 => k_asm); (case k4 => k_asm); (case k5 => k_asm); (case k6 => k_is); (case k7 => k_is); (case k8 => k_room); (case k9 => first | exact BindsTo.of_eq rfl | exact binds_K (by k_in) rfl (by k_is) rfl rfl rfl | fail "k_enter: no rule for these arguments"); (case c5 => decide); (case kB => exact locs rfl); (case c2 => exact rfl); (case c3 => exact rfl); (case c4 => exact rfl); k_whole; intro g' L' h' FG' F' N' B' X' T'; (try dsimp only); (try k_lift B'); (try k_fold)))
local macro_rules | `(tactic| k_all) => `(tactic| (refine ne_of_below (by assumption) ?_; first | exact Nat.le_refl _ | omega))
local macro_rules | `(tactic| k_mem) => `(tactic| first | exact List.Mem.head _ | (refine List.Mem.tail _ ?_; k_mem) | assumption)
def GKeep (a b : Array GenState) : Prop := (∀ (k : Nat) (q : GenState), a[k]? = some q → b[k]? = some q) ∧ (AllBare a → AllBare b)
theorem GKeep.refl (a : Array GenState) : GKeep a a := ⟨fun _ _ h => h, fun h => h⟩
theorem GKeep.trans {a b c : Array GenState} (h : GKeep a b) (h' : GKeep b c) : GKeep a c := ⟨fun k q e => h'.1 k q (h.1 k q e), fun x => h'.2 (h.2 x)⟩
theorem AllBare.setGen {s : Shared} {g : Nat} {x : GenState} (hx : x.bare = true) (h : AllBare s.gens) : AllBare (s.setGen g x).gens := fun y hy => by
  unfold Shared.setGen at hy
  rcases Array.mem_or_eq_of_mem_setIfInBounds hy with hy | rfl
  · exact h y hy
  · exact hx
theorem GKeep.setGen {a : Array GenState} {s : Shared} {x : GenState} (hx : x.bare = true) (h : GKeep a s.gens) : GKeep a (s.setGen a.size x).gens := by
  refine ⟨fun k q e => ?_, fun y => AllBare.setGen hx (h.2 y)⟩
  have hlt : k < a.size := by
    rcases Nat.lt_or_ge k a.size with h' | h'
    · exact h'
    · rw [Array.getElem?_eq_none h'] at e; cases e
  have := h.1 k q e
  unfold Shared.setGen
  simpa [Array.getElem?_setIfInBounds, Nat.ne_of_gt hlt] using this
theorem has_setGen {s : Shared} {g : Nat} {x : GenState} (h : ∃ q, s.gens[g]? = some q) : ∃ q, (s.setGen g x).gens[g]? = some q := by
  obtain ⟨q, hq⟩ := h
  exact ⟨x, setGen_self hq⟩
/-- the state of a generator over a tuple, its items gathered in the list S -/
def GSt (G0 : Array GenState) (sB : Shared) (g : Heap) (C S a I t : Addr) (oa : Obj) (i : Nat) (ys : List Value) (J : Led → Prop) (s : Shared) : Prop :=
  ∃ (h : Heap) (tk : Nat) (gs : Array GenState) (mC : Str → Option Value) (l : Led) (k : Nat) (oI : Obj), s = { sB with heap := h, toks := tk, gens := gs } ∧ GKeep G0 gs ∧ (∃ q, gs[G0.size]? = some q) ∧ Fr g C h mC ∧
    News g C h ((S, W.listOf ys.toArray k) :: (a, oa) :: (I, oI) :: l) ∧ oI.cls = .type "tuple_iterator" ∧ oI.data = .fields #[.ref t, .int i 0] ∧ (∀ q ∈ l, q.1 ≠ S ∧ q.1 ≠ a ∧ q.1 ≠ I) ∧ J l
def GDn (G0 : Array GenState) (sB : Shared) (g : Heap) (C S a : Addr) (oa : Obj) (ys : List Value) (J : Led → Prop) (s : Shared) : Prop :=
  ∃ (h : Heap) (tk : Nat) (gs : Array GenState) (mC : Str → Option Value) (l : Led) (k : Nat), s = { sB with heap := h, toks := tk, gens := gs } ∧ GKeep G0 gs ∧ Fr g C h mC ∧
    News g C h ((S, W.listOf ys.toArray k) :: (a, oa) :: l) ∧ (∀ q ∈ l, q.1 ≠ S ∧ q.1 ≠ a) ∧ J l
section
variable {G0 : Array GenState} {sB : Shared} {g : Heap} {C S a I t : Addr} {oa : Obj} {i : Nat} {ys ys' : List Value} {J J' : Led → Prop} {s : Shared}
theorem GSt.lst (h : GSt G0 sB g C S a I t oa i ys J s) : LstAt S ys s := by
  obtain ⟨h, tk, gs, mC, l, k, oI, rfl, _, _, _, N, _⟩ := h
  exact ⟨k, (N _ (.head _)).1⟩
theorem LstAt.uniq (h : LstAt S ys s) (h' : LstAt S ys' s) : ys = ys' := by
  obtain ⟨k, e⟩ := h
  obtain ⟨k', e'⟩ := h'
  rw [e] at e'
  have e2 := congrArg Obj.data (Option.some.inj e')
  injection e2 with e3 _
  simpa using e3
theorem GSt.setGen {x : GenState} (hx : x.bare = true) (h : GSt G0 sB g C S a I t oa i ys J s) : GSt G0 sB g C S a I t oa i ys J (s.setGen G0.size x) := by
  obtain ⟨h, tk, gs, mC, l, k, oI, rfl, a1, a2, a3, a4⟩ := h
  exact ⟨h, tk, _, mC, l, k, oI, rfl, GKeep.setGen (s := { sB with heap := h, toks := tk, gens := gs }) hx a1, has_setGen (s := { sB with heap := h, toks := tk, gens := gs }) a2, a3, a4⟩
theorem GDn.setGen {x : GenState} (hx : x.bare = true) (h : GDn G0 sB g C S a oa ys J s) : GDn G0 sB g C S a oa ys J (s.setGen G0.size x) := by
  obtain ⟨h, tk, gs, mC, l, k, rfl, a1, a3⟩ := h
  exact ⟨h, tk, _, mC, l, k, rfl, GKeep.setGen (s := { sB with heap := h, toks := tk, gens := gs }) hx a1, a3⟩
theorem GSt.has (h : GSt G0 sB g C S a I t oa i ys J s) : ∃ q, s.gens[G0.size]? = some q := by
  obtain ⟨h, tk, gs, mC, l, k, oI, rfl, a1, a2, a3, a4⟩ := h
  exact a2
/-- an item is put behind the list's others -/
theorem GSt.put {h' : Heap} (hSa : S ≠ a) (hSI : S ≠ I) (h : GSt G0 sB g C S a I t oa i ys J s) (hs : Heap.SameBut S s.heap h') (hl : LstAt S ys' { s with heap := h' }) : GSt G0 sB g C S a I t oa i ys' J { s with heap := h' } := by
  obtain ⟨h, tk, gs, mC, l, k, oI, rfl, a1, a2, F, N, a5, a6, a7, a8⟩ := h
  obtain ⟨k', hl⟩ := hl
  have hS := N _ (.head _)
  have keep : ∀ b o, b ≠ S → h.get? b = some o → h'.get? b = some o := fun b o hb e => hs.extBut b o hb e
  refine ⟨h', tk, gs, mC, l, k', oI, rfl, a1, a2, ⟨F.ns.at' fun o e => keep C o (Ne.symm hS.2.1) e, fun b o e => keep b o (fun q => by rw [q, hS.2.2] at e; cases e) (F.keep b o e), F.above⟩, fun q hq => ?_, a5, a6, a7, a8⟩
  rcases List.mem_cons.mp hq with rfl | hq
  · exact ⟨hl, hS.2⟩
  · have z := N q (.tail _ hq)
    refine ⟨keep _ _ ?_ z.1, z.2⟩
    rcases List.mem_cons.mp hq with rfl | hq
    · exact Ne.symm hSa
    · rcases List.mem_cons.mp hq with rfl | hq
      · exact Ne.symm hSI
      · exact (a7 q hq).1
end
def gProto (Run : Nat → List Value → Shared → Prop) (Out : Nat → List Value → Value → Shared → Prop) (N : Nat) : Protocol := fun m s₀ v s kap =>
  ∃ i, i + m + 1 = N ∧ (∀ ys, Run i ys s₀ → Out i ys v s) ∧ ∀ s'', (∃ ys, Run (i + 1) ys s'') → kap (.send .none) s''
end
section
theorem off_Gn4 : True := by
  w_top off
  exact True.intro
theorem unr_Gn4 {a b : Nat} (h : a < b) : a < b := h
local macro_rules | `(tactic| k_room) => `(tactic| ((try simp only [depth_under_make, depth_under_kw, depth_in1, depth_deeper, depth_caller]); (try dsimp only [ktrTop]); (try simp only [recursionLimit]); omega))
local macro_rules | `(tactic| k_units) => `(tactic| ((try simp only [units_in1, units_deeper, Around.mark_units, units_caller]); (try dsimp only [ktrTop]); (try simp only [cLine]); omega))
local macro_rules | `(tactic| k_enter) => `(tactic| (refine' code_def ?k1 ?k2 ?k3 ?k4 ?k5 ?kA ?kF ?kK ?k6 ?k7 ?k8 ?k9 ?kB ?_ ?c2 ?c3 ?c4 ?c5; (case kA => exact rfl); (case kF => exact rfl); (case kK => first | assumption | exact rfl); (case k1 => k_asm); (case k2 => k_asm); (case k3 => k_asm); (case k4 => k_asm); (case k5 => k_asm); (case k6 => k_is); (case k7 => k_is); (case k8 => k_room); (case k9 => first | exact BindsTo.of_eq rfl | exact binds_K (by k_in) rfl (by k_is) rfl rfl rfl | fail "k_enter: no rule for these arguments"); (case c5 => decide); (case kB => exact locs rfl); (case c2 => exact rfl); (case c3 => exact rfl); (case c4 => exact rfl); k_whole; intro g' L' h' FG' F' N' B' X' T'; (try dsimp only); (try k_lift B'); (try k_fold)))
local macro_rules | `(tactic| k_all) => `(tactic| (refine ne_of_below (by assumption) ?_; first | exact Nat.le_refl _ | omega))
local macro_rules | `(tactic| k_mem) => `(tactic| first | exact List.Mem.head _ | (refine List.Mem.tail _ ?_; k_mem) | assumption)
abbrev kTop (dp un : Nat) (gd : Option (List Code)) (env : Env) (outer : List Env) : Around := { handled := none, depth := dp, frames := some (env :: outer), guards := gd, units := un }
theorem over_loop {dp un : Nat} {gd : Option (List Code)} {env cenv : Env} {outer : List Env} {elt : PySem.Expr} {gens : List Comprehension} {scope : Scope} {pos : Pos} {it acc : Value} :
    (kTop dp un gd env outer).over (.compLoop (.GeneratorExp elt gens scope pos) 0 it acc cenv) [] = kTop (dp + 1) (un + 3) gd cenv (env :: outer) := rfl
section
variable {prog : Program} {w : World} {dp un : Nat} {gd : Option (List Code)} {env cenv : Env} {outer : List Env} {elt iter : PySem.Expr} {x : Str} {px : Pos} {scope : Scope} {pos : Pos} {G0 : Array GenState} {sB : Shared} {g : Heap} {C S a I t : Addr} {oa : Obj} {N : Nat} {vs : List Value} {J : Nat → List Value → Led → Prop}
abbrev GStepPost (sB : Shared) (g : Heap) (C S a I : Addr) (oa oI oS : Obj) (gs : Array GenState) (R : Value → Led → Prop) (y : Value) (s₂ : Shared) : Prop :=
  ∃ (h₂ : Heap) (tk₂ : Nat) (gs₂ : Array GenState) (all : Led) (mC₂ : Str → Option Value), s₂ = { sB with heap := h₂, toks := tk₂, gens := gs₂ } ∧ Fr g C h₂ mC₂ ∧ News g C h₂ all ∧ (S, oS) ∈ all ∧ (a, oa) ∈ all ∧ (I, oI) ∈ all ∧ GKeep gs gs₂ ∧ R y (f3 S a I all)
theorem gseg_loop (hloc : cenv.locals = C) (hx : cenv.kindOf x = some .local) (hp : (cenv.scope.kind == .class || (cenv.scope.kind == .module && cenv.locals != cenv.globals)) = false) (hco : cenv.scope.isCoroutine = false)
    (hSI : S ≠ I) (hSa : S ≠ a) (haI : a ≠ I) (hN : vs.length = N) (hJ : ∀ i ys l, J i ys l → ∃ k, (t, tupO vs k) ∈ l)
    (step : ∀ (i : Nat) (v : Value) (ys : List Value) (l : Led) (k : Nat) (oI : Obj) (mC : Str → Option Value) (h : Heap) (tk : Nat) (gs : Array GenState) (E' : Value → Shared → Prop), i < N → vs[i]? = some v → J i ys l → oI.cls = .type "tuple_iterator" → Fr g C h mC → mC x = some v →
      News g C h ((S, W.listOf ys.toArray k) :: (a, oa) :: (I, oI) :: l) → (∀ q ∈ l, q.1 ≠ S ∧ q.1 ≠ a ∧ q.1 ≠ I) →
      wpAny (model prog w) (kTop (dp + 1) (un + 3) gd cenv (env :: outer)) (eval elt cenv) (GStepPost sB g C S a I oa oI (W.listOf ys.toArray k) gs fun y l' => J (i + 1) (ys ++ [y]) l') E' { sB with heap := h, toks := tk, gens := gs }) :
    ∀ (k i : Nat) (s : Shared), N - i = k → i ≤ N → (∃ ys, GSt G0 sB g C S a I t oa i ys (J i ys) s) →
      Seg (model prog w) (kTop dp un gd env outer) (fun n s₀ r s₁ => r = .ok .next ∧ n = 0 ∧ ∀ ys, GSt G0 sB g C S a I t oa N ys (J N ys) s₀ → GDn G0 sB g C S a oa ys (J N ys) s₁)
        (gProto (fun i ys s => GSt G0 sB g C S a I t oa i ys (J i ys) s) (fun i ys v s => GSt G0 sB g C S a I t oa (i + 1) ys (J (i + 1) (ys ++ [v])) s) N) (N - i) s
        (.compLoop (.GeneratorExp elt [⟨.Name x px, iter, [], 0⟩] scope pos) 0 (.ref I) .none cenv) ((model prog w).den (.compLoop (.GeneratorExp elt [⟨.Name x px, iter, [], 0⟩] scope pos) 0 (.ref I) .none cenv)) [] s := by
  subst hloc
  intro k
  induction k with
  | zero =>
    intro i s hk hi hst
    have hin : i = N := by omega
    subst hin
    obtain ⟨ys, hst⟩ := hst
    have huniq := hst.lst
    show Seg _ _ _ _ _ s _ ((compTurn (.GeneratorExp elt [⟨.Name x px, iter, [], 0⟩] scope pos) 0 (.ref I) .none cenv).onRaise (leaving cenv)) [] s
    rw [compTurn_gen, Sem.onRaise_eq_wrap]
    refine seg_bind_wrap (wpAny_standAt ?_)
    obtain ⟨h, tk, gs, mC, l, kS, oI, rfl, a1, a2, F, N', a5, a6, a7, a8⟩ := id hst
    obtain ⟨kt, ht⟩ := hJ _ _ _ a8
    have hI := N' (I, oI) (.tail _ (.tail _ (.head _)))
    have htn := N' _ (.tail _ (.tail _ (.tail _ ht)))
    have htup : h.IsTuple t vs.toArray := ⟨_, htn.1, rfl, _, rfl⟩
    refine seg_bind_wrap ((Walks.tuple (A := (kTop dp un gd env outer).over (.compLoop (.GeneratorExp elt [⟨.Name x px, iter, [], 0⟩] scope pos) 0 (.ref I) .none cenv) []) rfl I t (a7 _ ht).2.2 vs.toArray).done _ _ _ (by rw [List.size_toArray, hN]; exact ⟨⟨oI, hI.1, a5, a6⟩, htup⟩) fun h' tk' hk' => ?_)
    refine seg_end (.ok .next) ⟨rfl, Nat.sub_self _, fun ys' hst' => ?_⟩
    obtain rfl := LstAt.uniq huniq hst'.lst
    have keep : ∀ b o, b ≠ I → h.get? b = some o → h'.get? b = some o := fun b o hb e => hk' b o (by simpa using hb) e
    refine ⟨h', tk', gs, mC, l, kS, rfl, a1, ⟨F.ns.at' fun o e => keep _ o (Ne.symm hI.2.1) e, fun b o e => keep b o (fun q => by rw [q, hI.2.2] at e; cases e) (F.keep b o e), F.above⟩, fun q hq => ?_, fun q hq => ⟨(a7 q hq).1, (a7 q hq).2.1⟩, a8⟩
    rcases List.mem_cons.mp hq with rfl | hq
    · have z := N' _ (.head _)
      exact ⟨keep _ _ hSI z.1, z.2⟩
    · rcases List.mem_cons.mp hq with rfl | hq
      · have z := N' _ (.tail _ (.head _))
        exact ⟨keep _ _ haI z.1, z.2⟩
      · have z := N' q (.tail _ (.tail _ (.tail _ hq)))
        exact ⟨keep _ _ (a7 q hq).2.2 z.1, z.2⟩
  | succ k ih =>
    intro i s hk hi hst
    have hlt : i < N := by omega
    obtain ⟨ys, hst⟩ := hst
    have huniq := hst.lst
    have hv : vs[i]? = some (vs[i]'(by omega)) := by simp [hN, hlt]
    generalize hve : vs[i]'(by omega) = v at hv
    show Seg _ _ _ _ _ s _ ((compTurn (.GeneratorExp elt [⟨.Name x px, iter, [], 0⟩] scope pos) 0 (.ref I) .none cenv).onRaise (leaving cenv)) [] s
    rw [compTurn_gen, Sem.onRaise_eq_wrap]
    refine seg_bind_wrap (wpAny_standAt ?_)
    obtain ⟨h, tk, gs, mC, l, kS, oI, rfl, a1, a2, F, N', a5, a6, a7, a8⟩ := id hst
    obtain ⟨kt, ht⟩ := hJ _ _ _ a8
    have hI := N' (I, oI) (.tail _ (.tail _ (.head _)))
    have htn := N' _ (.tail _ (.tail _ (.tail _ ht)))
    have htup : h.IsTuple t vs.toArray := ⟨_, htn.1, rfl, _, rfl⟩
    refine seg_bind_wrap (wpAny_pyNext_tuple_item (s := { sB with heap := h, toks := tk, gens := gs }) ⟨oI, hI.1, a5, a6⟩ htup (by simpa using hv) fun h1 hit1 hs1 => ?_)
    refine seg_bind_wrap (wpAny_of_eq (rfl : letOwnedTupleGo (.Name x px) (.ref I) v = pure ()) ?_)
    have keep1 : ∀ b o, b ≠ I → h.get? b = some o → h1.get? b = some o := fun b o hb e => hs1.extBut b o hb e
    have hCI : cenv.locals ≠ I := Ne.symm hI.2.1
    refine seg_bind_wrap (wpAny_assign_Name (wpAny_storeName_local hx (F.ns.at' fun o e => keep1 _ o hCI e) (fun h2 hn2 hs2 => ?_) hp))
    refine seg_bind_wrap ?_
    rw [List.forIn_nil]
    refine wpAny_pure ?_
    simp only [if_true]
    have hy : ∀ v, yieldOut cenv v = yieldValue v := fun v => by simp only [yieldOut, hco, Bool.false_eq_true, if_false]
    simp only [hy]
    rw [Sem.bind_eq_wrap', Sem.bind_eq_wrap', Sem.wrap_wrap, Sem.wrap_wrap]
    obtain ⟨oI2, hI2, c1, c2⟩ := hit1
    have keep2 : ∀ b o, b ≠ I → b ≠ cenv.locals → h.get? b = some o → h2.get? b = some o := fun b o hb hc e => hs2.extBut b o hc (keep1 b o hb e)
    have F2 : Fr g cenv.locals h2 (fun y => if y = x then some v else mC y) := ⟨hn2, fun b o e => keep2 b o (fun q => by rw [q, hI.2.2] at e; cases e) (fun q => by
      have z : g.get? cenv.locals = none := Heap.get?_none_of_le F.above
      rw [q, z] at e; cases e) (F.keep b o e), F.above⟩
    have N2 : News g cenv.locals h2 ((S, W.listOf ys.toArray kS) :: (a, oa) :: (I, oI2) :: l) := fun q hq => by
      rcases List.mem_cons.mp hq with rfl | hq
      · have z := N' _ (.head _)
        exact ⟨keep2 _ _ hSI z.2.1 z.1, z.2⟩
      · rcases List.mem_cons.mp hq with rfl | hq
        · have z := N' _ (.tail _ (.head _))
          exact ⟨keep2 _ _ haI z.2.1 z.1, z.2⟩
        · rcases List.mem_cons.mp hq with rfl | hq
          · exact ⟨hs2.extBut _ _ hI.2.1 hI2, hI.2⟩
          · have z := N' q (.tail _ (.tail _ (.tail _ hq)))
            exact ⟨keep2 _ _ (a7 q hq).2.2 z.2.1 z.1, z.2⟩
    rw [show N - i = (N - (i + 1)) + 1 by omega]
    refine seg_wrap (wpAny_mono (step i v ys l kS oI2 _ h2 _ gs _ hlt hv a8 c1 F2 (by simp) N2 a7) (fun y s₄ h₄ => ?_) fun _ _ e => e)
    obtain ⟨h3, tk3, gs3, all, mC3, rfl, F3, N3, b1, b2, b3, b4, b5⟩ := h₄
    refine seg_at (seg_yield rfl rfl rfl ⟨i, by omega, fun ys' hst' => ?_, fun s'' hal => ?_⟩)
    · obtain rfl := LstAt.uniq huniq hst'.lst
      refine ⟨h3, tk3, gs3, mC3, f3 S a I all, kS, oI2, rfl, a1.trans b4, ?_, F3, fun q hq => ?_, c1, c2, fun q hq => (mem_f3.mp hq).2, b5⟩
      · obtain ⟨q, hq⟩ := a2
        exact ⟨q, b4.1 _ _ hq⟩
      · rcases List.mem_cons.mp hq with rfl | hq
        · exact N3 _ b1
        · rcases List.mem_cons.mp hq with rfl | hq
          · exact N3 _ b2
          · rcases List.mem_cons.mp hq with rfl | hq
            · exact N3 _ b3
            · exact N3 _ (mem_f3.mp hq).1
    · exact seg_again rfl (ih (i + 1) s'' (by omega) hlt hal)
end
end
section
theorem off_Gn5 : True := by
  w_top off
  exact True.intro
theorem unr_Gn5 {a b : Nat} (h : a < b) : a < b := h
local macro_rules | `(tactic| k_room) => `(tactic| ((try simp only [depth_under_make, depth_under_kw, depth_in1, depth_deeper, depth_caller]); (try dsimp only [ktrTop]); (try simp only [recursionLimit]); omega))
local macro_rules | `(tactic| k_units) => `(tactic| ((try simp only [units_in1, units_deeper, Around.mark_units, units_caller]); (try dsimp only [ktrTop]); (try simp only [cLine]); omega))
local macro_rules | `(tactic| k_enter) => `(tactic| (refine' code_def ?k1 ?k2 ?k3 ?k4 ?k5 ?kA ?kF ?kK ?k6 ?k7 ?k8 ?k9 ?kB ?_ ?c2 ?c3 ?c4 ?c5; (case kA => exact rfl); (case kF => exact rfl); (case kK => first | assumption | exact rfl); (case k1 => k_asm); (case k2 => k_asm); (case k3 => k_asm); (case k4 => k_asm); (case k5 => k_asm); (case k6 => k_is); (case k7 => k_is); (case k8 => k_room); (case k9 => first | exact BindsTo.of_eq rfl | exact binds_K (by k_in) rfl (by k_is) rfl rfl rfl | fail "k_enter: no rule for these arguments"); (case c5 => decide); (case kB => exact locs rfl); (case c2 => exact rfl); (case c3 => exact rfl); (case c4 => exact rfl); k_whole; intro g' L' h' FG' F' N' B' X' T'; (try dsimp only); (try k_lift B'); (try k_fold)))
local macro_rules | `(tactic| k_all) => `(tactic| (refine ne_of_below (by assumption) ?_; first | exact Nat.le_refl _ | omega))
local macro_rules | `(tactic| k_mem) => `(tactic| first | exact List.Mem.head _ | (refine List.Mem.tail _ ?_; k_mem) | assumption)
section
variable {prog : Program} {w : World} {dp un : Nat} {gd : Option (List Code)} {env cenv : Env} {outer : List Env} {elt iter : PySem.Expr} {x : Str} {px : Pos} {scope : Scope} {pos : Pos} {G0 : Array GenState} {sB : Shared} {g : Heap} {C S a I t : Addr} {oa : Obj} {N : Nat} {vs : List Value} {J : Nat → List Value → Led → Prop}
/-- between two items -/
def GOut (prog : Program) (w : World) (dp un : Nat) (gd : Option (List Code)) (env : Env) (outer : List Env) (G0 : Array GenState) (sB : Shared) (g : Heap) (C S a I t : Addr) (oa : Obj) (N : Nat) (J : Nat → List Value → Led → Prop) (i : Nat) (ys : List Value) (s : Shared) : Prop :=
  GSt G0 sB g C S a I t oa i ys (J i ys) s ∧ ∃ gs, s.gens[G0.size]? = some gs ∧ ∀ s'', (∃ ys, GSt G0 sB g C S a I t oa i ys (J i ys) s'') →
    gs.Goes (model prog w) (kTop dp un gd env outer) (fun n s₀ r s₁ => r = .ok .next ∧ n = 0 ∧ ∀ ys, GSt G0 sB g C S a I t oa N ys (J N ys) s₀ → GDn G0 sB g C S a oa ys (J N ys) s₁)
      (gProto (fun i ys s => GSt G0 sB g C S a I t oa i ys (J i ys) s) (fun i ys v s => GSt G0 sB g C S a I t oa (i + 1) ys (J (i + 1) (ys ++ [v])) s) N) (N - i) (.send .none) s''
theorem gout_item {t1 t2 : Tok} {q : Str} (hoa : oa = genObj G0.size t1 t2 q) (hSI : S ≠ I) (hSa : S ≠ a) (hdp : dp < 1000) (hlim : g.NoLimit) {i : Nat} {ys : List Value} {s : Shared} (hi : i < N)
    (hst : GOut prog w dp (un + 1) gd env outer G0 sB g C S a I t oa N J i ys s) (Q : Option Value → Shared → Prop) (E : Value → Shared → Prop)
    (hQ : ∀ v s', LstAt S ys s' → (∀ h', Heap.SameBut S s'.heap h' → LstAt S (ys ++ [v]) { s' with heap := h' } → GOut prog w dp (un + 1) gd env outer G0 sB g C S a I t oa N J (i + 1) (ys ++ [v]) { s' with heap := h' }) → Q (some v) s') :
    wpAny (model prog w) (kTop dp un gd env outer) (pyNext (.ref a)) Q E s := by
  obtain ⟨hst, gs, hgs, hgo⟩ := hst
  have hg : s.heap.IsGen a G0.size := by
    obtain ⟨h, tk, gs, mC, l, k, oI, rfl, _, _, _, N', _⟩ := hst
    exact ⟨oa, _, _, (N' _ (.tail _ (.head _))).1, by rw [hoa], by rw [hoa], by rw [hoa]⟩
  have hl : s.heap.NoLimit := by
    obtain ⟨h, tk, gs, mC, l, k, oI, rfl, _, _, F, _⟩ := hst
    exact hlim.keeps F.keep
  obtain ⟨m, hm⟩ : ∃ m, N - i = m + 1 := ⟨N - i - 1, by omega⟩
  rw [hm] at hgo
  refine wpAny_pyNext_genexpQ (P := fun n s₀ s₁ => n = 0 ∧ ∀ ys, GSt G0 sB g C S a I t oa N ys (J N ys) s₀ → GDn G0 sB g C S a oa ys (J N ys) s₁) rfl hl hdp hg hgs (hgo _ ⟨ys, hst.setGen rfl⟩) (fun v s₁ gs' hb hv => ?_) (fun s₁ hp h' hk => absurd hp.1 (Nat.succ_ne_zero m))
  obtain ⟨i', e, hout, hkap⟩ := hv
  have hi' : i' = i := by omega
  subst hi'
  have hO := hout ys (hst.setGen rfl)
  obtain ⟨q0, hq0⟩ := hO.has
  refine hQ v _ (hO.setGen hb).lst fun h' hs' hl' => ⟨GSt.put hSa hSI (hO.setGen hb) hs' hl', gs', setGen_self hq0, fun s'' hs'' => ?_⟩
  rw [show N - (i' + 1) = m by omega]
  exact hkap s'' hs''
theorem GDn.grow {ys : List Value} {J' : Led → Prop} {s : Shared} {h' : Heap} (h : GDn G0 sB g C S a oa ys J' s) (k : ∀ b o, s.heap.get? b = some o → h'.get? b = some o) : GDn G0 sB g C S a oa ys J' { s with heap := h' } := by
  obtain ⟨h, tk, gs, mC, l, kS, rfl, a1, F, N', a7, a8⟩ := h
  exact ⟨h', tk, gs, mC, l, kS, rfl, a1, F.keeps k, fun q hq => ⟨k _ _ (N' q hq).1, (N' q hq).2⟩, a7, a8⟩
theorem gout_done {t1 t2 : Tok} {q : Str} (hoa : oa = genObj G0.size t1 t2 q) (hdp : dp < 1000) (hlim : g.NoLimit) (hN0 : 0 < N) {ys : List Value} {s : Shared}
    (hst : GOut prog w dp (un + 1) gd env outer G0 sB g C S a I t oa N J N ys s) (Q : Option Value → Shared → Prop) (E : Value → Shared → Prop) (hQ : ∀ s', GDn G0 sB g C S a oa ys (J N ys) s' → Q none s') :
    wpAny (model prog w) (kTop dp un gd env outer) (pyNext (.ref a)) Q E s := by
  obtain ⟨hst, gs, hgs, hgo⟩ := hst
  have hg : s.heap.IsGen a G0.size := by
    obtain ⟨h, tk, gs, mC, l, k, oI, rfl, _, _, _, N', _⟩ := hst
    exact ⟨oa, _, _, (N' _ (.tail _ (.head _))).1, by rw [hoa], by rw [hoa], by rw [hoa]⟩
  have hl : s.heap.NoLimit := by
    obtain ⟨h, tk, gs, mC, l, k, oI, rfl, _, _, F, _⟩ := hst
    exact hlim.keeps F.keep
  rw [Nat.sub_self] at hgo
  refine wpAny_pyNext_genexpQ (P := fun n s₀ s₁ => n = 0 ∧ ∀ ys, GSt G0 sB g C S a I t oa N ys (J N ys) s₀ → GDn G0 sB g C S a oa ys (J N ys) s₁) rfl hl hdp hg hgs (hgo _ ⟨ys, hst.setGen rfl⟩) (fun v s₁ gs' hb hv => ?_) (fun s₁ hp h' hk => ?_)
  · obtain ⟨i', e, _, hkap⟩ := hv
    have hi' : i' + 1 = N := by omega
    rw [hi'] at hkap
    exact False.elim (hkap s ⟨ys, hst⟩)
  · exact hQ _ (((hp.2 ys (hst.setGen rfl)).setGen rfl).grow hk)
end
end
section
theorem off_Gn6 : True := by
  w_top off
  exact True.intro
local macro_rules | `(tactic| walk_at "off 0") => `(tactic| fail)
theorem unr_Gn6 {a b : Nat} (h : a < b) : a < b := h
local macro_rules | `(tactic| k_room) => `(tactic| ((try simp only [depth_under_make, depth_under_kw, depth_in1, depth_deeper, depth_caller]); (try dsimp only [ktrTop]); (try simp only [recursionLimit]); omega))
local macro_rules | `(tactic| k_units) => `(tactic| ((try simp only [units_in1, units_deeper, Around.mark_units, units_caller]); (try dsimp only [ktrTop]); (try simp only [cLine]); omega))
local macro_rules | `(tactic| k_enter) => `(tactic| (refine' code_def ?k1 ?k2 ?k3 ?k4 ?k5 ?kA ?kF ?kK ?k6 ?k7 ?k8 ?k9 ?kB ?_ ?c2 ?c3 ?c4 ?c5; (case kA => exact rfl); (case kF => exact rfl); (case kK => first | assumption | exact rfl); (case k1 => k_asm); (case k2 => k_asm); (case k3 => k_asm); (case k4 => k_asm); (case k5 => k_asm); (case k6 => k_is); (case k7 => k_is); (case k8 => k_room); (case k9 => first | exact BindsTo.of_eq rfl | exact binds_K (by k_in) rfl (by k_is) rfl rfl rfl | fail "k_enter: no rule for these arguments"); (case c5 => decide); (case kB => exact locs rfl); (case c2 => exact rfl); (case c3 => exact rfl); (case c4 => exact rfl); k_whole; intro g' L' h' FG' F' N' B' X' T'; (try dsimp only); (try k_lift B'); (try k_fold)))
local macro_rules | `(tactic| k_all) => `(tactic| (refine ne_of_below (by assumption) ?_; first | exact Nat.le_refl _ | omega))
local macro_rules | `(tactic| k_mem) => `(tactic| first | exact List.Mem.head _ | (refine List.Mem.tail _ ?_; k_mem) | assumption)
section
variable {prog : Program} {w : World}
theorem tuple_collect {A : Around} {E : Value → Shared → Prop} {s : Shared} {a S : Addr} {gn n : Nat} {Q : Value → Shared → Prop} (St : Nat → List Value → Shared → Prop) (Fin : List Value → Shared → Prop) (hn : n ≤ 1000) (hg : s.heap.IsGen a gn) (hSa : s.heap.objs.size = S)
    (start : ∀ h', (∀ b o, s.heap.get? b = some o → h'.get? b = some o) → LstAt S [] { s with heap := h' } → St 0 [] { s with heap := h' })
    (item : ∀ i ys s, i < n → St i ys s → ∀ (Q : Option Value → Shared → Prop) (E : Value → Shared → Prop), (∀ v s', LstAt S ys s' → (∀ h', Heap.SameBut S s'.heap h' → LstAt S (ys ++ [v]) { s' with heap := h' } → St (i + 1) (ys ++ [v]) { s' with heap := h' }) → Q (some v) s') → wpAny (model prog w) A.in1.in1.in1 (pyNext (.ref a)) Q E s)
    (done : ∀ ys s, St n ys s → ∀ (Q : Option Value → Shared → Prop) (E : Value → Shared → Prop), (∀ s', Fin ys s' → Q none s') → wpAny (model prog w) A.in1.in1.in1 (pyNext (.ref a)) Q E s)
    (fin : ∀ ys s', ys.length = n → Fin ys s' → LstAt S ys s' ∧ Q (.ref s'.heap.objs.size) { s' with heap := s'.heap.push { cls := .type "tuple", data := .seq ys.toArray } }) : wpAny (model prog w) A (call (.type "tuple") [.ref a]) Q E s := by
  refine callType_codes (Q₁ := fun obj s₁ => s₁.TypeIs obj "tuple" ∧ Q obj s₁) PySem.F.called_tuple (PySem.F.typeCall_tuple_1 _) PySem.F.entry_object_init ?_ fun obj s₁ h₁ => ?_
  · refine codeAny_of_tree ?_
    show wpAny _ A.in1.in1 (do checkBuiltinCall "tuple.__new__" ⟨[.type "tuple", .ref a], []⟩; again (.builtin "tuple.__new__" ⟨[.type "tuple", .ref a], []⟩)) _ _ s
    refine wpAny_bind (wpAny_of_eq (PySem.F.newCall_tuple_1 _) (wpAny_pure ⟨plainId_quiet PySem.F.plain_tuple_new _, codeAny_builtin PySem.F.entry_tuple_new ?_⟩))
    rw [Around.under_plainId PySem.F.plain_tuple_new _]
    have hsub := sub_tuple_self
    have hinit := init_tuple_lookup
    have hmh := madeHere_tuple
    have hTI : s.TypeIs (.ref a) "generator" := hg.typeIs
    wp_walk using wpAny_typeOf hTI, collect_inv St Fin hn hg hSa start item done
    intro ys s' hl hf
    obtain ⟨hL, hq⟩ := fin ys s' hl hf
    refine ⟨hL, wpAny_bind (wpAny_pure ?_)⟩
    show wpAny _ _ (Builtin.Tuple.tupleExact ys.toArray >>= fun v => ret v) _ _ _
    unfold Builtin.Tuple.tupleExact
    refine wpAny_bind (wpAny_newObj_type ?_ (by show ys.toArray.size ≤ sizeLine; rw [List.size_toArray, sizeLine_eq]; omega))
    refine wpAny_pure ?_
    exact ⟨⟨_, Heap.get?_push_size _ rfl, rfl⟩, hq⟩
  · exact ⟨h₁.1, PySem.F.args_object_init_2 obj _, object_init_meets PySem.F.called_tuple.init.lookup PySem.F.called_tuple.made (by decide) prog w A.in1 _ s₁ ⟨h₁.1, rfl, h₁.2⟩⟩
end
section
variable {prog : Program} {w : World} {dp un : Nat} {gd : Option (List Code)} {env : Env} {outer : List Env} {elt iter : PySem.Expr} {x : Str} {px : Pos} {scope : Scope} {cl : List (Str × Addr)} {pos : Pos} {h₀ base : Heap} {L P t a : Addr} {m mg mb : Str → Option Value} {news : Led} {K : Frag} {p : Program} {loose : List Str} {mean : ExcName → Option Value} {s₁ s : Shared} {N : Nat} {vs : List Value} {J : Nat → List Value → Led → Prop} {E : Value → Shared → Prop} {Q : Value → Shared → Prop}
theorem back_F {g h : Heap} {C : Addr} {mC : Str → Option Value} (FG : Fr h₀ L g m) (F : Fr g C h mC) : Fr h₀ L h m := by
  obtain ⟨oL, es, ep, hL, r⟩ := FG.ns
  exact ⟨⟨oL, es, ep, F.keep _ _ hL, r⟩, fun b o e => F.keep b o (FG.keep b o e), FG.above⟩
theorem back_N {g h : Heap} {C : Addr} {l : Led} (FG : Fr h₀ L g m) (N : News g C h l) : News h₀ L h l := fun q hq => by
  have z := N q hq
  refine ⟨z.1, fun e => ?_, ?_⟩
  · obtain ⟨oL, es, ep, hL, r⟩ := FG.ns
    rw [e, hL] at z; cases z.2.2
  · cases e : h₀.get? q.1 with
    | none => rfl
    | some o => have := FG.keep _ _ e; rw [z.2.2] at this; cases this
theorem tuple_gen (hG : GenUp K p loose mean mg mb (kTop dp un gd env outer) base h₀ env outer L m P t news elt iter x px scope cl pos a s₁ s) (hdp : dp < 1000)
    (hx : scope.names.lookup x = some .local) (hk : scope.kind = .function) (hco : scope.isCoroutine = false) (hN : vs.length = N) (hN0 : 0 < N) (hN1 : N ≤ 1000)
    (hJ : ∀ i ys l, J i ys l → ∃ k, (t, tupO vs k) ∈ l) (hJ0 : ∀ ps' : Array Value, TriplesOk ps'.toList → J 0 [] ((P, tabObj ps') :: news))
    (step : ∀ (g : Heap) (S I C : Addr) (code : Value) (oa : Obj) (i : Nat) (v : Value) (ys : List Value) (l : Led) (k : Nat) (oI : Obj) (mC : Str → Option Value) (h : Heap) (tk : Nat) (gs : Array GenState) (E' : Value → Shared → Prop), Below (kTop dp un gd env outer) base (env :: outer) g → K.In g → Top p loose mean mg mb g → oa.cls = .type "generator" → oI.cls = .type "tuple_iterator" →
      i < N → vs[i]? = some v → J i ys l → Fr g C h mC → mC x = some v → News g C h ((S, W.listOf ys.toArray k) :: (a, oa) :: (I, oI) :: l) → (∀ q ∈ l, q.1 ≠ S ∧ q.1 ≠ a ∧ q.1 ≠ I) →
      wpAny (model prog w) (kTop (dp + 1) (un + 7) gd (genEnv scope cl C code builtinsNs env) (env :: outer)) (eval elt (genEnv scope cl C code builtinsNs env)) (GStepPost s₁ g C S a I oa oI (W.listOf ys.toArray k) gs fun y l' => J (i + 1) (ys ++ [y]) l') E' { s₁ with heap := h, toks := tk, gens := gs })
    (fin : ∀ (ys : List Value) (l : Led) (T : Addr) (h' : Heap) (tk : Nat) (gs : Array GenState), J N ys l → ys.length = N → Fr h₀ L h' m → News h₀ L h' ((T, tupO ys 0) :: l) → (∀ q ∈ l, q.1 < T) → GKeep s₁.gens gs → Q (.ref T) { s₁ with heap := h', toks := tk, gens := gs }) :
    wpAny (model prog w) (kTop dp un gd env outer) (call (.type "tuple") [.ref a]) Q E s := by
  obtain ⟨g, I, C, code, ps', t1, t2, FG, BG, XG, TG, FC, NC, ht', hIC, hCa, hnI, hPI, h', tk', rfl⟩ := hG
  generalize hoa : genObj s₁.gens.size t1 t2 (env.qual ++ "<genexpr>") = oa at NC
  have ha := NC _ (.head _)
  have hgen : h'.IsGen a s₁.gens.size := ⟨oa, _, _, ha.1, by rw [← hoa], by rw [← hoa], by rw [← hoa]⟩
  have haS : a < h'.objs.size := Heap.lt_size ha.1
  have hIS : I < h'.objs.size := Heap.lt_size (NC _ (.tail _ (.head _))).1
  have hkf : ∀ y, (genEnv scope cl C code builtinsNs env).kindOf y = scope.names.lookup y := fun _ => rfl
  have hrest : ∀ q ∈ (P, tabObj ps') :: news, q.1 ≠ h'.objs.size ∧ q.1 ≠ a ∧ q.1 ≠ I := fun q hq => by
    have l1 : q.1 < I := by
      rcases List.mem_cons.mp hq with rfl | hq
      · exact hPI
      · exact hnI q hq
    exact ⟨Nat.ne_of_lt (Nat.lt_trans l1 hIS), Nat.ne_of_lt (Nat.lt_trans l1 (Nat.lt_trans hIC hCa)), Nat.ne_of_lt l1⟩
  refine tuple_collect (S := h'.objs.size) (GOut prog w dp (un + 4) gd env outer s₁.gens s₁ g C h'.objs.size a I t oa N J) (fun ys s' => GDn s₁.gens s₁ g C h'.objs.size a oa ys (J N ys) s') hN1 hgen rfl (fun h1 k1 hl => ?_)
    (fun i ys s' hi hst Q' E' hQ' => gout_item hoa.symm (Nat.ne_of_gt hIS) (Nat.ne_of_gt haS) hdp TG.nolimit hi hst Q' E' hQ')
    (fun ys s' hst Q' E' hQ' => gout_done hoa.symm hdp TG.nolimit hN0 hst Q' E' hQ') (fun ys s' hl hf => ?_)
  · obtain ⟨kS, hl⟩ := hl
    have hgs : (s₁.gens.push (.fresh (.compStart (.GeneratorExp elt [⟨.Name x px, iter, [], 0⟩] scope pos) 0 (.ref I) .none (genEnv scope cl C code builtinsNs env))))[s₁.gens.size]? = some (.fresh (.compStart (.GeneratorExp elt [⟨.Name x px, iter, [], 0⟩] scope pos) 0 (.ref I) .none (genEnv scope cl C code builtinsNs env))) := by simp
    refine ⟨⟨h1, tk', _, _, (P, tabObj ps') :: news, kS, tupIter t 0, rfl, ⟨fun k q e => ?_, fun x => x.push rfl⟩, ⟨_, hgs⟩, FC.keeps k1, fun q hq => ?_, rfl, rfl, hrest, hJ0 ps' ht'⟩, _, hgs, fun s'' hs'' => ?_⟩
    · have hlt : k < s₁.gens.size := by
        rcases Nat.lt_or_ge k s₁.gens.size with h' | h'
        · exact h'
        · rw [Array.getElem?_eq_none h'] at e; cases e
      rw [Array.getElem?_push_lt hlt, ← e, Array.getElem?_eq_getElem hlt]
    · rcases List.mem_cons.mp hq with rfl | hq
      · refine ⟨hl, Nat.ne_of_gt (Nat.lt_trans hCa haS), Heap.get?_none_of_le ?_⟩
        exact Nat.le_of_lt (Nat.lt_of_le_of_lt FC.above (Nat.lt_trans hCa haS))
      · exact ⟨k1 _ _ (NC q hq).1, (NC q hq).2⟩
    · refine ⟨rfl, ?_⟩
      rw [Nat.sub_zero]
      have loop := gseg_loop (prog := prog) (w := w) (dp := dp) (un := un + 4) (gd := gd) (env := env) (outer := outer) (iter := iter) (px := px) (scope := scope) (pos := pos) (G0 := s₁.gens) (sB := s₁) (g := g) (C := C) (S := h'.objs.size) (a := a) (I := I) (t := t) (oa := oa) (N := N) (vs := vs) (J := J) (cenv := genEnv scope cl C code builtinsNs env) (x := x) (elt := elt)
        rfl (by rw [hkf]; exact hx) (by show (scope.kind == .class || (scope.kind == .module && _)) = false; rw [hk]; rfl) hco (Nat.ne_of_gt hIS) (Nat.ne_of_gt haS) (Nat.ne_of_gt (Nat.lt_trans hIC hCa)) hN hJ
        (fun i v ys l k oI mC h tk gs E' hi hv hJ' hoI F' hm N' off => step g _ I C code oa i v ys l k oI mC h tk gs E' BG XG TG (by rw [← hoa]) hoI hi hv hJ' F' hm N' off) N 0 s'' (Nat.sub_zero _) (Nat.zero_le _) hs''
      rw [Nat.sub_zero] at loop
      show Seg _ _ _ _ _ s'' _ ((compStart (.GeneratorExp elt [⟨.Name x px, iter, [], 0⟩] scope pos) 0 (.ref I) .none (genEnv scope cl C code builtinsNs env)).onRaise (leaving (genEnv scope cl C code builtinsNs env))) [] s''
      unfold compStart
      rw [Sem.onRaise_eq_wrap]
      show Seg _ _ _ _ _ s'' _ ((ask >>= _).wrap _ _ _ _) [] s''
      refine seg_bind_wrap (wpAny_askSetting ?_)
      obtain ⟨ys, hst⟩ := hs''
      split
      · exact seg_again rfl loop
      · obtain ⟨h2, tk2, gs2, mC2, l2, k2, oI2, rfl, _, _, F2, N2, e1, e2, _, hJ2⟩ := hst
        have hit : h2.IsTupleIter I t 0 := ⟨oI2, (N2 _ (.tail _ (.tail _ (.head _)))).1, e1, e2⟩
        first
          | exact seg_bind_wrap (wpAny_rule (seg_bind_wrap (wpAny_standAt (seg_bind_wrap (wpAny_pyIter_tupleiter hit (seg_again rfl loop))))))
          | (refine seg_bind_wrap (wpAny_rule ?_); show Seg _ _ _ _ _ _ _ ((standAt iter.pos >>= _).wrap _ _ _ _) [] _; exact seg_bind_wrap (wpAny_standAt (seg_bind_wrap (wpAny_pyIter_tupleiter hit (seg_again rfl loop)))))
  · obtain ⟨h2, tk2, gs2, mC2, l2, k2, rfl, a1, F2, N2, a7, a8⟩ := hf
    refine ⟨⟨k2, (N2 _ (.head _)).1⟩, ?_⟩
    have F3 := back_F FG F2
    have N3 := back_N FG N2
    exact fin ys l2 h2.objs.size _ tk2 gs2 a8 hl (F3.push _) (fun q hq => by
      rcases List.mem_cons.mp hq with rfl | hq
      · exact (N3.push F3 (tupO ys 0)) _ (.head _)
      · exact (N3.push F3 (tupO ys 0)) _ (.tail _ (.tail _ (.tail _ hq)))) (fun q hq => Heap.lt_size (N3 q (.tail _ (.tail _ hq))).1) a1
end
end
section
theorem off_Rs : True := by
  w_top off
  exact True.intro
local macro_rules | `(tactic| walk_at "off 0") => `(tactic| fail)
local macro_rules | `(tactic| walk_at "off 1") => `(tactic| fail)
theorem unr_Rs {a b : Nat} (h : a < b) : a < b := h
local macro_rules | `(tactic| k_room) => `(tactic| ((try simp only [depth_under_make, depth_under_kw, depth_in1, depth_deeper, depth_caller]); (try dsimp only [ktrTop]); (try simp only [recursionLimit]); omega))
local macro_rules | `(tactic| k_units) => `(tactic| ((try simp only [units_in1, units_deeper, Around.mark_units, units_caller]); (try dsimp only [ktrTop]); (try simp only [cLine]); omega))
local macro_rules | `(tactic| k_enter) => `(tactic| (refine' code_def ?k1 ?k2 ?k3 ?k4 ?k5 ?kA ?kF ?kK ?k6 ?k7 ?k8 ?k9 ?kB ?_ ?c2 ?c3 ?c4 ?c5; (case kA => exact rfl); (case kF => exact rfl); (case kK => first | assumption | exact rfl); (case k1 => k_asm); (case k2 => k_asm); (case k3 => k_asm); (case k4 => k_asm); (case k5 => k_asm); (case k6 => k_is); (case k7 => k_is); (case k8 => k_room); (case k9 => first | exact BindsTo.of_eq rfl | exact binds_K (by k_in) rfl (by k_is) rfl rfl rfl | fail "k_enter: no rule for these arguments"); (case c5 => decide); (case kB => exact locs rfl); (case c2 => exact rfl); (case c3 => exact rfl); (case c4 => exact rfl); k_whole; intro g' L' h' FG' F' N' B' X' T'; (try dsimp only); (try k_lift B'); (try k_fold)))
local macro_rules | `(tactic| k_all) => `(tactic| (refine ne_of_below (by assumption) ?_; first | exact Nat.le_refl _ | omega))
local macro_rules | `(tactic| k_mem) => `(tactic| first | exact List.Mem.head _ | (refine List.Mem.tail _ ?_; k_mem) | assumption)
/-- as Does, with any frame on top, and generators may be made -/
def DoesG (w : World) (kd ku : Nat) (t : Sem Value) (news : Led) (R : Value → Led → Prop) : Prop :=
  ∀ (dp un : Nat) (gd : Option (List Code)) (env : Env) (outer : List Env) (A₀ : Around) (base h₀ : Heap) (L : Addr) (m : Str → Option Value) (s : Shared)
    (loose : List Str) (mean : ExcName → Option Value) (mg mb : Str → Option Value) (Q E : Value → Shared → Prop),
    env.frame = some L → env.scope.kind = .function → Below A₀ base outer h₀ → Fr h₀ L s.heap m → (hd.heap_39 w.params).In h₀ → News h₀ L s.heap news → Top topProg loose mean mg mb h₀ → dp + kd < 1000 → un + ku < 9900 →
    (∀ r news' h' tk' gs', Fr h₀ L h' m → News h₀ L h' news' → GKeep s.gens gs' → R r news' → Q r { s with heap := h', toks := tk', gens := gs' }) →
    wpAny (model PySem.Challenge.rw_vj0022_01.row.prog w) (kTop dp un gd env outer) t Q E s
local macro_rules | `(tactic| k_room) => `(tactic| ((try simp only [depth_under_make, depth_under_kw, depth_in1, depth_deeper, depth_caller]); (try dsimp only [kTop, ktrTop]); (try simp only [recursionLimit]); omega))
local macro_rules | `(tactic| k_units) => `(tactic| ((try simp only [units_in1, units_deeper, Around.mark_units, units_caller]); (try dsimp only [kTop, ktrTop]); (try simp only [cLine]); omega))
local macro_rules | `(tactic| k_enter) => `(tactic| (refine' code_def ?k1 ?k2 ?k3 ?k4 ?k5 ?kA ?kF ?kK ?k6 ?k7 ?k8 ?k9 ?kB ?_ ?c2 ?c3 ?c4 ?c5; (case kA => exact rfl); (case kF => first | assumption | exact rfl); (case kK => first | assumption | exact rfl); (case k1 => k_asm); (case k2 => k_asm); (case k3 => k_asm); (case k4 => k_asm); (case k5 => k_asm); (case k6 => k_is); (case k7 => k_is); (case k8 => k_room); (case k9 => first | exact BindsTo.of_eq rfl | exact binds_K (by k_in) rfl (by k_is) rfl rfl rfl | fail "k_enter: no rule for these arguments"); (case c5 => decide); (case kB => exact locs rfl); (case c2 => exact rfl); (case c3 => exact rfl); (case c4 => exact rfl); k_whole; intro g' L' h' FG' F' N' B' X' T'; (try dsimp only); (try k_lift B'); (try k_fold)))
local macro_rules | `(tactic| walk_at "call type:str") => `(tactic| (k_here; k_dflt (refine' lz_str ?u ?n ?X ?x ?m ?s ?_; (case u => k_units); (case x => (refine' kto_N ?N ?h; (case N => k_asm); (case h => k_mem))); (case n => assumption); (case X => k_in); (case m => k_is); (case s => k_is); intro k9; (try dsimp only); (try k_fold))))
local macro_rules | `(tactic| walk_at "subscriptTail") => `(tactic| (k_here; k_dflt (refine' kda_item (knd := PySem.strKind _ _) ?N ?hp ?hd ?hk ?hl ?_; (case N => k_asm); (case hp => k_mem); (case hd => assumption); (case hk => exact strKind_is _ _ _ _); (case hl => assumption))))
local macro_rules | `(tactic| walk_at "call builtin:isinstance") => `(tactic| (k_here; (with_reducible show wpAny _ _ (call _ [Value.ref _, Value.ref _]) _ _ _); k_dflt (refine' kin_callC ?k1 ?k2 ?k3 ?k4 ?k5 ?k6 ?k7 ?k8 ?k9 ?_; (case k1 => k_in); (case k2 => (refine' plain_inst ?N ?h1 ?h2; (case N => k_asm); (case h1 => k_mem); (case h2 => k_mem))); (case k3 => kin_no); (case k4 => k_is); (case k5 => k_is); (case k6 => k_is); (case k7 => k_is); (case k8 => k_is); (case k9 => k_is); k_whole)))
theorem lit_rsv (w : World) (news : Led) (x mp : Addr) : DoesG w 20 100 (call (.ref 274) [.ref x, .ref mp]) news fun r news' => r = .ref x ∧ ∀ z ∈ news, z ∈ news' := by
  unfold DoesG
  k_fill
  intro dp un gd env outer A₀ base h₀ L mm s loose mean mg mb Q E hf hkk B F X N T hdp hun hret
  refine wpAny_call ?_
  k_enter
  k_steps
  exact hret _ _ _ _ s.gens (by assumption) (by assumption) (GKeep.refl _) ⟨rfl, fun z hz => by simp [hz]⟩
theorem lz_rsv451 (w : World) (news : Led) (x d m root dd : Addr) (nm : Str) (tx : Tok) (om od : Obj) (sl : Array (Option Value)) (hnm : nm.length ≤ 100) (hx : (x, lzObj d nm tx) ∈ news) (hm : (m, om) ∈ news) (hom : om.IsDictOf (PySem.strKind theProg w) [(nm, .ref root)]) (hr : (root, (⟨.ref 451, some dd, .plain, sl⟩ : Obj)) ∈ news) (hrd : (dd, od) ∈ news) :
    DoesG w 40 200 (call (.ref 513) [.ref x, .ref m]) news fun r news' => r = .ref root ∧ ∀ z ∈ news, z ∈ news' := by
  unfold DoesG
  k_fill
  intro dp un gd env outer A₀ base h₀ L mm s loose mean mg mb Q E hf hkk B F X N T hdp hun hret
  have hv : valueAt [(nm, Value.ref root)] nm = some (.ref root) := by simp [valueAt]
  refine wpAny_call ?_
  k_enter
  k_steps
  exact hret _ _ _ _ s.gens (by assumption) (by assumption) (GKeep.refl _) ⟨rfl, fun z hz => by simp [hz]⟩
theorem lz_rsv425 (w : World) (news : Led) (x d m root dd : Addr) (nm : Str) (tx : Tok) (om od : Obj) (sl : Array (Option Value)) (hnm : nm.length ≤ 100) (hx : (x, lzObj d nm tx) ∈ news) (hm : (m, om) ∈ news) (hom : om.IsDictOf (PySem.strKind theProg w) [(nm, .ref root)]) (hr : (root, (⟨.ref 425, some dd, .plain, sl⟩ : Obj)) ∈ news) (hrd : (dd, od) ∈ news) :
    DoesG w 40 200 (call (.ref 513) [.ref x, .ref m]) news fun r news' => r = .ref root ∧ ∀ z ∈ news, z ∈ news' := by
  unfold DoesG
  k_fill
  intro dp un gd env outer A₀ base h₀ L mm s loose mean mg mb Q E hf hkk B F X N T hdp hun hret
  have hv : valueAt [(nm, Value.ref root)] nm = some (.ref root) := by simp [valueAt]
  refine wpAny_call ?_
  k_enter
  k_steps
  exact hret _ _ _ _ s.gens (by assumption) (by assumption) (GKeep.refl _) ⟨rfl, fun z hz => by simp [hz]⟩
end
section
theorem off_Rt : True := by
  w_top off
  exact True.intro
theorem unr_Rt {a b : Nat} (h : a < b) : a < b := h
local macro_rules | `(tactic| k_room) => `(tactic| ((try simp only [depth_under_make, depth_under_kw, depth_in1, depth_deeper, depth_caller]); (try dsimp only [ktrTop]); (try simp only [recursionLimit]); omega))
local macro_rules | `(tactic| k_units) => `(tactic| ((try simp only [units_in1, units_deeper, Around.mark_units, units_caller]); (try dsimp only [ktrTop]); (try simp only [cLine]); omega))
local macro_rules | `(tactic| k_enter) => `(tactic| (refine' code_def ?k1 ?k2 ?k3 ?k4 ?k5 ?kA ?kF ?kK ?k6 ?k7 ?k8 ?k9 ?kB ?_ ?c2 ?c3 ?c4 ?c5; (case kA => exact rfl); (case kF => exact rfl); (case kK => first | assumption | exact rfl); (case k1 => k_asm); (case k2 => k_asm); (case k3 => k_asm); (case k4 => k_asm); (case k5 => k_asm); (case k6 => k_is); (case k7 => k_is); (case k8 => k_room); (case k9 => first | exact BindsTo.of_eq rfl | exact binds_K (by k_in) rfl (by k_is) rfl rfl rfl | fail "k_enter: no rule for these arguments"); (case c5 => decide); (case kB => exact locs rfl); (case c2 => exact rfl); (case c3 => exact rfl); (case c4 => exact rfl); k_whole; intro g' L' h' FG' F' N' B' X' T'; (try dsimp only); (try k_lift B'); (try k_fold)))
local macro_rules | `(tactic| k_all) => `(tactic| (refine ne_of_below (by assumption) ?_; first | exact Nat.le_refl _ | omega))
local macro_rules | `(tactic| k_mem) => `(tactic| first | exact List.Mem.head _ | (refine List.Mem.tail _ ?_; k_mem) | assumption)
def plainO (o : Obj) : Prop := o.cls ≠ .type "list" ∧ o.cls ≠ .type "generator" ∧ o.cls ≠ .type "tuple_iterator"
def RI (V : List Addr) (l : Led) : Prop := (∃ ps : Array Value, (389, tabObj ps) ∈ l ∧ TriplesOk ps.toList) ∧ ∀ a ∈ V, ∃ o, (a, o) ∈ l ∧ plainO o
theorem RI.keep {V : List Addr} {l l' : Led} (h : RI V l) (k : ∀ z ∈ l, plainO z.2 → z ∈ l') : RI V l' := by
  obtain ⟨⟨ps, h1, h2⟩, h3⟩ := h
  exact ⟨⟨ps, k _ h1 ⟨(by intro e; cases e), (by intro e; cases e), (by intro e; cases e)⟩, h2⟩, fun a ha => let ⟨o, h4, h5⟩ := h3 a ha; ⟨o, k _ h4 h5, h5⟩⟩
/-- what resolve_refs does of one expression: it gives r back -/
structure Rsv (w : World) (V : List Addr) (mp : Addr) (kd ku : Nat) where
  x : Addr
  r : Addr
  f : Addr
  Wr : List Addr
  PreS : List Addr
  PostS : List Addr
  pre : Led → Prop
  post : Led → Prop
  wrV : ∀ a ∈ Wr, a ∈ V
  preK : ∀ (l l' : Led) (U : List Addr), (∀ a ∈ U, a ∈ V ∧ a ∉ PreS) → (∀ z ∈ l, z.1 ∉ U → plainO z.2 → z ∈ l') → pre l → pre l'
  postK : ∀ (l l' : Led) (U : List Addr), (∀ a ∈ U, a ∈ V ∧ a ∉ PostS) → (∀ z ∈ l, z.1 ∉ U → plainO z.2 → z ∈ l') → post l → post l'
  keepF : keepIn (hd.heap_39 w.params) (.ref f) = true
  meth : ∀ (A : Around) (E : Value → Shared → Prop) (s : Shared) (h₀ : Heap) (L : Addr) (m : Str → Option Value) (l : Led) (pl : Sem Bool) (Q : Value × List Value → Shared → Prop), (hd.heap_39 w.params).In h₀ → Fr h₀ L s.heap m → News h₀ L s.heap l → pre l → Q (.ref f, [.ref x]) s →
    wpAny (model PySem.Challenge.rw_vj0022_01.row.prog w) A (getMethod (.ref x) (Str.ofString "resolve_refs") pl) Q E s
  call : ∀ l, RI V l → pre l → DoesG w kd ku (PySem.call (.ref f) [.ref x, .ref mp]) l fun v l' => v = .ref r ∧ RI V l' ∧ post l' ∧ ∀ z ∈ l, z.1 ∉ Wr → z ∈ l'
section
variable {w : World} {V : List Addr} {mp : Addr} {kd ku : Nat} {dp un : Nat} {gd : Option (List Code)} {env : Env} {outer outer' : List Env} {A₀ : Around} {base g : Heap} {C c : Addr} {code : Value} {scope : Scope} {cl : List (Str × Addr)} {oc : Obj} {mC : Str → Option Value} {s : Shared} {l : Led} {loose : List Str} {mean : ExcName → Option Value} {mg mb : Str → Option Value} {E : Value → Shared → Prop} {Q : Value → Shared → Prop} {p1 p2 p3 p4 : Pos}
theorem rsv_turn (q : Rsv w V mp kd ku) (B : Below A₀ base outer' g) (X : (hd.heap_39 w.params).In g) (T : Top topProg loose mean mg mb g) (hk : scope.kind = .function) (h1 : scope.names.lookup (Str.ofString "m") = some .local) (h2 : scope.names.lookup (Str.ofString "rule_map") = some .free)
    (hc : cl.lookup (Str.ofString "rule_map") = some c) (hoc : (c, oc) ∈ l) (hod : oc.data = .cell (some (.ref mp))) (F : Fr g C s.heap mC) (hm : mC (Str.ofString "m") = some (.ref q.x)) (N : News g C s.heap l) (hR : RI V l) (hpre : q.pre l) (hdp : dp + kd < 1000) (hun : un + ku < 9900) {pl : Env → Sem Bool}
    (he : ∀ env', eval (.Call (.Attribute (.Name (Str.ofString "m") p1) (Str.ofString "resolve_refs") p2) [.Name (Str.ofString "rule_map") p3] [] p4) env' = (do
      let ov ← eval (.Name (Str.ofString "m") p1) env'
      standAt p2.atName
      let (f, first) ← holding [ov] (getMethod ov (Str.ofString "resolve_refs") (pl env'))
      callWith p4 f first (backTo p4 (starEach [.Name (Str.ofString "rule_map") p3] env')) []))
    (hQ : ∀ l' h' tk' gs', Fr g C h' mC → News g C h' l' → GKeep s.gens gs' → RI V l' → q.post l' → (∀ z ∈ l, z.1 ∉ q.Wr → z ∈ l') → Q (.ref q.r) { s with heap := h', toks := tk', gens := gs' }) :
    wpAny (model PySem.Challenge.rw_vj0022_01.row.prog w) (kTop dp un gd (genEnv scope cl C code builtinsNs env) outer') (eval (.Call (.Attribute (.Name (Str.ofString "m") p1) (Str.ofString "resolve_refs") p2) [.Name (Str.ofString "rule_map") p3] [] p4) (genEnv scope cl C code builtinsNs env)) Q E s := by
  refine MethodCall_ ?_ (he _)
  refine wpAny_Name (wpAny_loadName_local (m := mC) hk h1 F.ns hm ?_)
  refine q.meth _ _ s g C mC l _ _ X F N hpre ?_
  refine callWith_K X q.keepF ?_
  refine spliced_more (wpAny_Name (wpAny_loadName_free hk h2 hc ⟨oc, (N _ hoc).1, hod⟩ ?_))
  refine spliced_none ⟨X.keeps F.keep, ?_⟩
  refine q.call l hR hpre dp un gd _ outer' A₀ base g C mC s loose mean mg mb _ _ rfl hk B F X N T hdp hun fun r l' h' tk' gs' F' N' hg hr => ?_
  obtain ⟨rfl, a1, a2, a3⟩ := hr
  exact hQ l' h' tk' gs' F' N' hg a1 a2 a3
end
end
section
theorem off_Ru : True := by
  w_top off
  exact True.intro
theorem unr_Ru {a b : Nat} (h : a < b) : a < b := h
local macro_rules | `(tactic| k_room) => `(tactic| ((try simp only [depth_under_make, depth_under_kw, depth_in1, depth_deeper, depth_caller]); (try dsimp only [ktrTop]); (try simp only [recursionLimit]); omega))
local macro_rules | `(tactic| k_units) => `(tactic| ((try simp only [units_in1, units_deeper, Around.mark_units, units_caller]); (try dsimp only [ktrTop]); (try simp only [cLine]); omega))
local macro_rules | `(tactic| k_enter) => `(tactic| (refine' code_def ?k1 ?k2 ?k3 ?k4 ?k5 ?kA ?kF ?kK ?k6 ?k7 ?k8 ?k9 ?kB ?_ ?c2 ?c3 ?c4 ?c5; (case kA => exact rfl); (case kF => exact rfl); (case kK => first | assumption | exact rfl); (case k1 => k_asm); (case k2 => k_asm); (case k3 => k_asm); (case k4 => k_asm); (case k5 => k_asm); (case k6 => k_is); (case k7 => k_is); (case k8 => k_room); (case k9 => first | exact BindsTo.of_eq rfl | exact binds_K (by k_in) rfl (by k_is) rfl rfl rfl | fail "k_enter: no rule for these arguments"); (case c5 => decide); (case kB => exact locs rfl); (case c2 => exact rfl); (case c3 => exact rfl); (case c4 => exact rfl); k_whole; intro g' L' h' FG' F' N' B' X' T'; (try dsimp only); (try k_lift B'); (try k_fold)))
local macro_rules | `(tactic| k_all) => `(tactic| (refine ne_of_below (by assumption) ?_; first | exact Nat.le_refl _ | omega))
local macro_rules | `(tactic| k_mem) => `(tactic| first | exact List.Mem.head _ | (refine List.Mem.tail _ ?_; k_mem) | assumption)
section
variable {w : World} {V : List Addr} {mp : Addr} {kd ku : Nat}
def TJ (ms : List (Rsv w V mp kd ku)) (n1 : Led) (i : Nat) (ys : List Value) (l : Led) : Prop :=
  ys = (ms.take i).map (fun q => Value.ref q.r) ∧ RI V l ∧ (∀ q ∈ ms.take i, q.post l) ∧ (∀ q ∈ ms.drop i, q.pre l) ∧ ∀ z ∈ n1, (∀ q ∈ ms, z.1 ∉ q.Wr) → z ∈ l
def Apart (a b : Rsv w V mp kd ku) : Prop := (∀ z ∈ a.Wr, z ∉ b.PreS) ∧ ∀ z ∈ b.Wr, z ∉ a.PostS
theorem tj_step {ms : List (Rsv w V mp kd ku)} {q : Rsv w V mp kd ku} {n1 l all : Led} {i : Nat} {ys : List Value} {g h : Heap} {C S a I : Addr} {oS oa oI : Obj} (hP : ms.Pairwise Apart) (hi : ms[i]? = some q) (hJ : TJ ms n1 i ys l) (hR : RI V all) (hpost : q.post all)
    (hk : ∀ z ∈ l, z.1 ∉ q.Wr → z ∈ all) (hN : News g C h all) (hS : (S, oS) ∈ all) (ha : (a, oa) ∈ all) (hI : (I, oI) ∈ all) (cS : oS.cls = .type "list") (ca : oa.cls = .type "generator") (cI : oI.cls = .type "tuple_iterator") (off : ∀ z ∈ l, z.1 ≠ S ∧ z.1 ≠ a ∧ z.1 ≠ I) :
    TJ ms n1 (i + 1) (ys ++ [.ref q.r]) (f3 S a I all) := by
  obtain ⟨j1, j2, j3, j4, j5⟩ := hJ
  have hlt : i < ms.length := by
    rcases Nat.lt_or_ge i ms.length with h' | h'
    · exact h'
    · rw [List.getElem?_eq_none h'] at hi; cases hi
  have hq : ms[i] = q := by rw [List.getElem?_eq_getElem hlt] at hi; exact Option.some.inj hi
  have et : ms.take (i + 1) = ms.take i ++ [q] := by rw [List.take_succ, hi]; rfl
  have ed : ms.drop i = q :: ms.drop (i + 1) := by rw [List.drop_eq_getElem_cons hlt, hq]
  have em : ms = ms.take i ++ q :: ms.drop (i + 1) := by rw [← ed, List.take_append_drop]
  have hP' := hP
  rw [em, List.pairwise_append] at hP'
  obtain ⟨_, p2, p3⟩ := hP'
  have p4 := (List.pairwise_cons.mp p2).1
  have kp : ∀ z ∈ all, plainO z.2 → z ∈ f3 S a I all := fun z hz hp => mem_f3.mpr ⟨hz, fun e => hp.1 (by rw [sameAddr hN (a := S) (o := z.2) (e ▸ hz) hS]; exact cS), fun e => hp.2.1 (by rw [sameAddr hN (a := a) (o := z.2) (e ▸ hz) ha]; exact ca), fun e => hp.2.2 (by rw [sameAddr hN (a := I) (o := z.2) (e ▸ hz) hI]; exact cI)⟩
  have kl : ∀ z ∈ l, z.1 ∉ q.Wr → z ∈ f3 S a I all := fun z hz hn => mem_f3.mpr ⟨hk z hz hn, off z hz⟩
  refine ⟨by rw [et, List.map_append, j1]; rfl, hR.keep kp, fun q' hq' => ?_, fun q' hq' => ?_, fun z hz hn => kl z (j5 z hz hn) (hn q (by rw [em]; exact List.mem_append_right _ (.head _)))⟩
  · rw [et] at hq'
    rcases List.mem_append.mp hq' with hq' | hq'
    · exact q'.postK l _ q.Wr (fun b hb => ⟨q.wrV b hb, (p3 q' hq' q (.head _)).2 b hb⟩) (fun z hz hn _ => kl z hz hn) (j3 q' hq')
    · rw [List.mem_singleton.mp hq']
      exact q.postK all _ [] (fun b hb => nomatch hb) (fun z hz _ hp => kp z hz hp) hpost
  · exact q'.preK l _ q.Wr (fun b hb => ⟨q.wrV b hb, (p4 q' hq').1 b hb⟩) (fun z hz hn _ => kl z hz hn) (j4 q' (by rw [ed]; exact .tail _ hq'))
theorem code_hd {h : Heap} (X : (hd.heap_39 w.params).In h) : CodeHd h 393 389 := codeHd_of_K X (by kernel_rfl)
end
end
section
theorem off_Rv : True := by
  w_top off
  exact True.intro
local macro_rules | `(tactic| walk_at "off 0") => `(tactic| fail)
local macro_rules | `(tactic| walk_at "off 1") => `(tactic| fail)
local macro_rules | `(tactic| walk_at "off 2") => `(tactic| fail)
local macro_rules | `(tactic| walk_at "off 3") => `(tactic| fail)
local macro_rules | `(tactic| walk_at "off 4") => `(tactic| fail)
local macro_rules | `(tactic| walk_at "off 5") => `(tactic| fail)
theorem unr_Rv {a b : Nat} (h : a < b) : a < b := h
local macro_rules | `(tactic| k_room) => `(tactic| ((try simp only [depth_under_make, depth_under_kw, depth_in1, depth_deeper, depth_caller]); (try dsimp only [ktrTop]); (try simp only [recursionLimit]); omega))
local macro_rules | `(tactic| k_units) => `(tactic| ((try simp only [units_in1, units_deeper, Around.mark_units, units_caller]); (try dsimp only [ktrTop]); (try simp only [cLine]); omega))
local macro_rules | `(tactic| k_enter) => `(tactic| (refine' code_def ?k1 ?k2 ?k3 ?k4 ?k5 ?kA ?kF ?kK ?k6 ?k7 ?k8 ?k9 ?kB ?_ ?c2 ?c3 ?c4 ?c5; (case kA => exact rfl); (case kF => exact rfl); (case kK => first | assumption | exact rfl); (case k1 => k_asm); (case k2 => k_asm); (case k3 => k_asm); (case k4 => k_asm); (case k5 => k_asm); (case k6 => k_is); (case k7 => k_is); (case k8 => k_room); (case k9 => first | exact BindsTo.of_eq rfl | exact binds_K (by k_in) rfl (by k_is) rfl rfl rfl | fail "k_enter: no rule for these arguments"); (case c5 => decide); (case kB => exact locs rfl); (case c2 => exact rfl); (case c3 => exact rfl); (case c4 => exact rfl); k_whole; intro g' L' h' FG' F' N' B' X' T'; (try dsimp only); (try k_lift B'); (try k_fold)))
local macro_rules | `(tactic| k_all) => `(tactic| (refine ne_of_below (by assumption) ?_; first | exact Nat.le_refl _ | omega))
local macro_rules | `(tactic| k_mem) => `(tactic| first | exact List.Mem.head _ | (refine List.Mem.tail _ ?_; k_mem) | assumption)
local macro_rules | `(tactic| k_room) => `(tactic| ((try simp only [depth_under_make, depth_under_kw, depth_in1, depth_deeper, depth_caller]); (try dsimp only [kTop, ktrTop]); (try simp only [recursionLimit]); omega))
local macro_rules | `(tactic| k_units) => `(tactic| ((try simp only [units_in1, units_deeper, Around.mark_units, units_caller]); (try dsimp only [kTop, ktrTop]); (try simp only [cLine]); omega))
local macro_rules | `(tactic| k_enter) => `(tactic| (refine' code_def ?k1 ?k2 ?k3 ?k4 ?k5 ?kA ?kF ?kK ?k6 ?k7 ?k8 ?k9 ?kB ?_ ?c2 ?c3 ?c4 ?c5; (case kA => exact rfl); (case kF => first | assumption | exact rfl); (case kK => first | assumption | exact rfl); (case k1 => k_asm); (case k2 => k_asm); (case k3 => k_asm); (case k4 => k_asm); (case k5 => k_asm); (case k6 => k_is); (case k7 => k_is); (case k8 => k_room); (case k9 => first | exact BindsTo.of_eq rfl | exact binds_K (by k_in) rfl (by k_is) rfl rfl rfl | fail "k_enter: no rule for these arguments"); (case c5 => decide); (case kB => exact locs rfl); (case c2 => exact rfl); (case c3 => exact rfl); (case c4 => exact rfl); k_whole; intro g' L' h' FG' F' N' B' X' T'; (try dsimp only); (try k_lift B'); (try k_fold)))
local macro_rules | `(tactic| k_enter) => `(tactic| (refine' code_defC ?k1 ?k2 ?k3 ?k4 ?k5 ?kA ?kF ?kK ?k6 ?k7 ?k8 ?k9 ?kB ?kD ?_ ?c2 ?c3 ?c4; (case kA => exact rfl); (case kF => first | assumption | exact rfl); (case kK => first | assumption | exact rfl); (case k1 => k_asm); (case k2 => k_asm); (case k3 => k_asm); (case k4 => k_asm); (case k5 => k_asm); (case k6 => k_is); (case k7 => k_is); (case k8 => k_room); (case k9 => first | exact BindsTo.of_eq rfl | exact binds_K (by k_in) rfl (by k_is) rfl rfl rfl | fail "k_enter: no rule for these arguments"); (case kB => exact rfl); (case kD => decide +kernel); (case c2 => exact rfl); (case c3 => exact rfl); (case c4 => exact rfl); k_whole; intro g' L' h' tk' cells' FG' F' N' Y' B' X' T' l1; (try k_lt l1); k_cells Y'; (try simp only [List.cons_append, List.nil_append] at N'); (try dsimp only); (try k_lift B'); (try k_fold)))
local macro_rules | `(tactic| k_all) => `(tactic| assumption)
local macro_rules | `(tactic| walk_at "eval GeneratorExp") => `(tactic| (refine stop ?_))
local macro_rules | `(tactic| walk_at "call type:tuple") => `(tactic| (refine stop ?_))
theorem comp_rsv425 (w : World) (V : List Addr) (mp : Addr) (kd ku : Nat) (ms : List (Rsv w V mp kd ku)) (hP : ms.Pairwise Apart) (h0 : 0 < ms.length) (hl : ms.length ≤ 100) (x dx t k : Addr) (idt : Value) (nm : Str) (nt : Tok) (hxV : x ∈ V) (h3V : 389 ∈ V) (hxW : ∀ q ∈ ms, x ∉ q.Wr) (hxP : ∀ q ∈ ms, x ∉ q.PostS) (h3a : ∀ q ∈ ms, 389 ∉ q.PreS) (hdV : dx ∉ V) (htV : t ∉ V)
    (l : Led) (hR : RI V l) (hx : (x, (⟨.ref 425, some dx, .plain, #[some (.ref t), some idt, some (.str nm nt)]⟩ : Obj)) ∈ l) (hdg : (dx, dictOf [] 0) ∈ l) (ht : (t, tupO (ms.map fun q => .ref q.x) k) ∈ l) (hpre : ∀ q ∈ ms, q.pre l) :
    DoesG w (kd + 20) (ku + 100) (call (.ref 394) [.ref x, .ref mp]) l fun v l' => v = .ref x ∧ RI V l' ∧ (∃ t' k', t' ∉ V ∧ (x, (⟨.ref 425, some dx, .plain, #[some (.ref t'), some idt, some (.str nm nt)]⟩ : Obj)) ∈ l' ∧ (t', tupO (ms.map fun q => .ref q.r) k') ∈ l' ∧ ∀ q ∈ ms, q.post l') ∧ ∀ z ∈ l, z.1 ≠ x → z.1 ≠ 389 → (∀ q ∈ ms, z.1 ∉ q.Wr) → z ∈ l' := by
  unfold DoesG
  k_fill
  intro dp un gd env outer A₀ base h₀ L mm s loose mean mg mb Q E hf hkk B F X N T hdp hun hret
  obtain ⟨⟨ps, hps, htr⟩, hV⟩ := hR
  have hx3 : x ≠ 389 := fun e => by
    have := sameAddr N (a := 389) (e ▸ hx) hps
    cases this
  have n3 : ∀ {a : Addr} {o : Obj}, (a, o) ∈ l → a ∉ V → a ≠ 389 := fun _ hn e => hn (e ▸ h3V)
  have inr : ∀ {z : Addr × Obj}, z ∈ l → z.1 ≠ 389 → z ∈ l.filter (fun z => z.1 ≠ 389) := fun hz hn => List.mem_filter.mpr ⟨hz, decide_eq_true hn⟩
  have hx' := inr hx hx3
  have hd' := inr hdg (n3 hdg hdV)
  have ht' := inr ht (n3 ht htV)
  have off := off_filter (news := l) (d := 389)
  have N0 := focus N hps
  have sub : ∀ z ∈ l.filter (fun z => z.1 ≠ 389), z ∈ l := fun z hz => (List.mem_filter.mp hz).1
  generalize hg : l.filter (fun z => z.1 ≠ 389) = rest at *
  have hxt : x ≠ t := fun e => htV (e ▸ hxV)
  clear N
  have N := N0
  clear N0
  refine wpAny_call ?_
  k_enter
  rename_i g1 Lc h1 tk1 FG1 F1 B1 X1 T1 l1 oc dC0 N1
  k_steps
  refine unstop ?_
  refine gen_eval (c := 393) (P := 389) (ps := ps) (news := (Lc + 1, oc) :: rest) (K := hd.heap_39 w.params) (h₀ := g1) (L := Lc) (cl := [(Str.ofString "rule_map", Lc + 1)]) F1 B1 X1 T1 rfl rfl rfl rfl ?room rfl (code_hd X1) htr ?hn rfl ?hclos ?hcell rfl rfl ?_ (fun _ => rfl)
  case room => k_room
  case hclos => with_unfolding_all rfl
  case hcell => decide
  case hn =>
    intro q hq
    rcases List.mem_cons.mp hq with rfl | hq
    · refine neN ?_
      have := l1.1
      dsimp only
      omega
    · exact off q hq
  have perm : ∀ q ∈ (389, tabObj ps) :: (Lc + 1, oc) :: rest, q ∈ (Lc + 1, oc) :: (389, tabObj ps) :: rest := fun q hq => by
    rcases List.mem_cons.mp hq with rfl | hq
    · exact .tail _ (.head _)
    · rcases List.mem_cons.mp hq with rfl | hq
      · exact .head _
      · exact .tail _ (.tail _ hq)
  k_steps
  refine unstop ⟨t, _, k, rfl, by k_asm, fun q hq => N1 q (perm q hq), .tail _ ht', fun a9 s9 G9 => ?_⟩
  k_steps
  refine unstop ?_
  have dC : oc.data = .cell (some (.ref mp)) := dC0
  have hltl : ∀ q ∈ rest, @LT.lt Nat _ q.1 Lc := fun q hq => kst_ltOf l1.2 q hq
  have hVlt : ∀ a ∈ V, @LT.lt Nat _ a Lc := fun a ha => by
    obtain ⟨o, ho, _⟩ := hV a ha
    by_cases e : a = 389
    · rw [e]; exact l1.1
    · exact hltl _ (inr ho e)
  have hcV : Lc + 1 ∉ V := fun h => by
    have e := hVlt _ h
    exact absurd e (Nat.not_lt.mpr (Nat.le_succ _))
  have hWn : ∀ {a : Addr}, a ∉ V → ∀ q ∈ ms, a ∉ q.Wr := fun ha q _ hq => ha (q.wrV _ hq)
  refine tuple_gen (dp := dp + 1) (un := un + 3) (gd := gd) (outer := env :: outer) (N := ms.length) (vs := ms.map fun q => Value.ref q.x) (J := TJ ms ((Lc + 1, oc) :: rest)) G9 ?hdp rfl rfl rfl (by simp) h0 (by omega) ?hJ ?hJ0 ?hstep ?hfin
  case hdp => omega
  case hJ => exact fun i ys l2 hj => ⟨k, hj.2.2.2.2 _ (.tail _ ht') (hWn htV)⟩
  case hJ0 =>
    intro ps' hps'
    refine ⟨by simp, ⟨⟨ps', .head _, hps'⟩, fun a ha => ?_⟩, fun q hq => (by simp at hq), fun q hq => ?_, fun z hz _ => .tail _ hz⟩
    · by_cases e : a = 389
      · subst e
        exact ⟨_, .head _, (by intro e; cases e), (by intro e; cases e), (by intro e; cases e)⟩
      · obtain ⟨o, ho, hp⟩ := hV a ha
        exact ⟨o, .tail _ (.tail _ (inr ho e)), hp⟩
    · have hq' : q ∈ ms := by simpa using hq
      exact q.preK l _ [389] (fun a ha => by rw [List.mem_singleton.mp ha]; exact ⟨h3V, h3a q hq'⟩) (fun z hz hn _ => .tail _ (.tail _ (inr hz (by simpa using hn)))) (hpre q hq')
  case hstep =>
    intro g2 S I C code oa i v ys l2 k2 oI mC h2 tk2 gs2 E' BG XG TG hoa hoI hi hv hJ F2 hm N2 off2
    have hlt : i < ms.length := hi
    have hqi : ms[i]? = some ms[i] := List.getElem?_eq_getElem hlt
    generalize ms[i] = q at hqi
    have hqm : q ∈ ms := List.mem_of_getElem? hqi
    have hvq : v = .ref q.x := by
      rw [List.getElem?_map, hqi] at hv
      exact (Option.some.inj hv).symm
    have hdrop : q ∈ ms.drop i := by
      have : (ms.drop i)[0]? = some q := by rw [List.getElem?_drop]; simpa using hqi
      exact List.mem_of_getElem? this
    have up : ∀ z ∈ l2, z ∈ (S, W.listOf ys.toArray k2) :: (a9, oa) :: (I, oI) :: l2 := fun z hz => .tail _ (.tail _ (.tail _ hz))
    have hout : ∀ {b : Addr}, (∀ z ∈ l2, z.1 ≠ b) → b ∉ q.Wr := fun hb hq => by
      obtain ⟨o, ho, _⟩ := hJ.2.1.2 _ (q.wrV _ hq)
      exact hb _ ho rfl
    refine rsv_turn q BG XG TG rfl rfl rfl rfl (up _ (hJ.2.2.2.2 _ (.head _) (hWn hcV))) dC F2 (by rw [← hvq]; exact hm) N2 (hJ.2.1.keep fun z hz _ => up z hz) (q.preK l2 _ [] (fun _ h => nomatch h) (fun z hz _ _ => up z hz) (hJ.2.2.2.1 q hdrop)) (by omega) (by omega) (fun _ => rfl) ?_
    intro l' h' tk' gs' F' N' hg' hR' hpost hk
    exact ⟨h', tk', gs', l', mC, rfl, F', N', hk _ (.head _) (hout fun z hz => (off2 z hz).1), hk _ (.tail _ (.head _)) (hout fun z hz => (off2 z hz).2.1), hk _ (.tail _ (.tail _ (.head _))) (hout fun z hz => (off2 z hz).2.2), hg', tj_step hP hqi hJ hR' hpost (fun z hz hn => hk z (up z hz) hn) N' (hk _ (.head _) (hout fun z hz => (off2 z hz).1)) (hk _ (.tail _ (.head _)) (hout fun z hz => (off2 z hz).2.1)) (hk _ (.tail _ (.tail _ (.head _))) (hout fun z hz => (off2 z hz).2.2)) rfl hoa hoI off2⟩
  case hfin =>
    intro ys l2 T h2 tk2 gs2 hJ hlen F2 N2 hlt hg
    obtain ⟨j1, j2, j3, j4, j5⟩ := hJ
    have hx2 : (x, (⟨.ref 425, some dx, .plain, #[some (.ref t), some idt, some (.str nm nt)]⟩ : Obj)) ∈ (T, tupO ys 0) :: l2 := .tail _ (j5 _ (.tail _ hx') hxW)
    have hTx : T ≠ x := Ne.symm (Nat.ne_of_lt (hlt _ (j5 _ (.tail _ hx') hxW)))
    have hd2 : (dx, dictOf [] 0) ∈ ((T, tupO ys 0) :: l2).filter (fun z => z.1 ≠ x) := List.mem_filter.mpr ⟨.tail _ (j5 _ (.tail _ hd') (hWn hdV)), decide_eq_true (fun e => hdV (by rw [show dx = x from e]; exact hxV))⟩
    have hT2 : (T, tupO ys 0) ∈ ((T, tupO ys 0) :: l2).filter (fun z => z.1 ≠ x) := List.mem_filter.mpr ⟨.head _, decide_eq_true hTx⟩
    have off3 := off_filter (news := (T, tupO ys 0) :: l2) (d := x)
    have N3 := focus N2 hx2
    have in3 : ∀ z ∈ l2, z.1 ≠ x → z ∈ ((T, tupO ys 0) :: l2).filter (fun z => z.1 ≠ x) := fun z hz hn => List.mem_filter.mpr ⟨.tail _ hz, decide_eq_true hn⟩
    generalize hg2 : ((T, tupO ys 0) :: l2).filter (fun z => z.1 ≠ x) = rest2 at *
    clear N2 N1 N
    k_steps
    have hTV : T ∉ V := fun h => by
      obtain ⟨o, ho, _⟩ := j2.2 _ h
      exact Nat.lt_irrefl _ (hlt _ ho)
    have ht9 : ms.take ms.length = ms := List.take_length
    rw [ht9] at j1 j3
    subst j1
    refine hret _ _ _ _ gs2 (by assumption) (by assumption) hg ⟨rfl, ⟨?_, fun a ha => ?_⟩, ⟨T, 0, hTV, .head _, .tail _ hT2, fun q hq => ?_⟩, fun z hz hzx hz3 hzW => .tail _ (in3 z (j5 _ (.tail _ (inr hz hz3)) hzW) hzx)⟩
    · obtain ⟨⟨ps2, hp2, ht2⟩, _⟩ := j2
      exact ⟨ps2, .tail _ (in3 _ hp2 (Ne.symm hx3)), ht2⟩
    · by_cases e : a = x
      · subst e
        exact ⟨_, .head _, (by intro e; cases e), (by intro e; cases e), (by intro e; cases e)⟩
      · obtain ⟨o, ho, hp⟩ := j2.2 _ ha
        exact ⟨o, .tail _ (in3 _ ho e), hp⟩
    · exact q.postK l2 _ [x] (fun a ha => by rw [List.mem_singleton.mp ha]; exact ⟨hxV, hxP q hq⟩) (fun z hz hn _ => .tail _ (in3 z hz (by simpa using hn))) (j3 q hq)
theorem comp_rsv451 (w : World) (V : List Addr) (mp : Addr) (kd ku : Nat) (ms : List (Rsv w V mp kd ku)) (hP : ms.Pairwise Apart) (h0 : 0 < ms.length) (hl : ms.length ≤ 100) (x dx t k : Addr) (idt : Value) (nm : Str) (nt : Tok) (hxV : x ∈ V) (h3V : 389 ∈ V) (hxW : ∀ q ∈ ms, x ∉ q.Wr) (hxP : ∀ q ∈ ms, x ∉ q.PostS) (h3a : ∀ q ∈ ms, 389 ∉ q.PreS) (hdV : dx ∉ V) (htV : t ∉ V)
    (l : Led) (hR : RI V l) (hx : (x, (⟨.ref 451, some dx, .plain, #[some (.ref t), some idt, some (.str nm nt)]⟩ : Obj)) ∈ l) (hdg : (dx, dictOf [] 0) ∈ l) (ht : (t, tupO (ms.map fun q => .ref q.x) k) ∈ l) (hpre : ∀ q ∈ ms, q.pre l) :
    DoesG w (kd + 20) (ku + 100) (call (.ref 394) [.ref x, .ref mp]) l fun v l' => v = .ref x ∧ RI V l' ∧ (∃ t' k', t' ∉ V ∧ (x, (⟨.ref 451, some dx, .plain, #[some (.ref t'), some idt, some (.str nm nt)]⟩ : Obj)) ∈ l' ∧ (t', tupO (ms.map fun q => .ref q.r) k') ∈ l' ∧ ∀ q ∈ ms, q.post l') ∧ ∀ z ∈ l, z.1 ≠ x → z.1 ≠ 389 → (∀ q ∈ ms, z.1 ∉ q.Wr) → z ∈ l' := by
  unfold DoesG
  k_fill
  intro dp un gd env outer A₀ base h₀ L mm s loose mean mg mb Q E hf hkk B F X N T hdp hun hret
  obtain ⟨⟨ps, hps, htr⟩, hV⟩ := hR
  have hx3 : x ≠ 389 := fun e => by
    have := sameAddr N (a := 389) (e ▸ hx) hps
    cases this
  have n3 : ∀ {a : Addr} {o : Obj}, (a, o) ∈ l → a ∉ V → a ≠ 389 := fun _ hn e => hn (e ▸ h3V)
  have inr : ∀ {z : Addr × Obj}, z ∈ l → z.1 ≠ 389 → z ∈ l.filter (fun z => z.1 ≠ 389) := fun hz hn => List.mem_filter.mpr ⟨hz, decide_eq_true hn⟩
  have hx' := inr hx hx3
  have hd' := inr hdg (n3 hdg hdV)
  have ht' := inr ht (n3 ht htV)
  have off := off_filter (news := l) (d := 389)
  have N0 := focus N hps
  have sub : ∀ z ∈ l.filter (fun z => z.1 ≠ 389), z ∈ l := fun z hz => (List.mem_filter.mp hz).1
  generalize hg : l.filter (fun z => z.1 ≠ 389) = rest at *
  have hxt : x ≠ t := fun e => htV (e ▸ hxV)
  clear N
  have N := N0
  clear N0
  refine wpAny_call ?_
  k_enter
  rename_i g1 Lc h1 tk1 FG1 F1 B1 X1 T1 l1 oc dC0 N1
  k_steps
  refine unstop ?_
  refine gen_eval (c := 393) (P := 389) (ps := ps) (news := (Lc + 1, oc) :: rest) (K := hd.heap_39 w.params) (h₀ := g1) (L := Lc) (cl := [(Str.ofString "rule_map", Lc + 1)]) F1 B1 X1 T1 rfl rfl rfl rfl ?room rfl (code_hd X1) htr ?hn rfl ?hclos ?hcell rfl rfl ?_ (fun _ => rfl)
  case room => k_room
  case hclos => with_unfolding_all rfl
  case hcell => decide
  case hn =>
    intro q hq
    rcases List.mem_cons.mp hq with rfl | hq
    · refine neN ?_
      have := l1.1
      dsimp only
      omega
    · exact off q hq
  have perm : ∀ q ∈ (389, tabObj ps) :: (Lc + 1, oc) :: rest, q ∈ (Lc + 1, oc) :: (389, tabObj ps) :: rest := fun q hq => by
    rcases List.mem_cons.mp hq with rfl | hq
    · exact .tail _ (.head _)
    · rcases List.mem_cons.mp hq with rfl | hq
      · exact .head _
      · exact .tail _ (.tail _ hq)
  k_steps
  refine unstop ⟨t, _, k, rfl, by k_asm, fun q hq => N1 q (perm q hq), .tail _ ht', fun a9 s9 G9 => ?_⟩
  k_steps
  refine unstop ?_
  have dC : oc.data = .cell (some (.ref mp)) := dC0
  have hltl : ∀ q ∈ rest, @LT.lt Nat _ q.1 Lc := fun q hq => kst_ltOf l1.2 q hq
  have hVlt : ∀ a ∈ V, @LT.lt Nat _ a Lc := fun a ha => by
    obtain ⟨o, ho, _⟩ := hV a ha
    by_cases e : a = 389
    · rw [e]; exact l1.1
    · exact hltl _ (inr ho e)
  have hcV : Lc + 1 ∉ V := fun h => by
    have e := hVlt _ h
    exact absurd e (Nat.not_lt.mpr (Nat.le_succ _))
  have hWn : ∀ {a : Addr}, a ∉ V → ∀ q ∈ ms, a ∉ q.Wr := fun ha q _ hq => ha (q.wrV _ hq)
  refine tuple_gen (dp := dp + 1) (un := un + 3) (gd := gd) (outer := env :: outer) (N := ms.length) (vs := ms.map fun q => Value.ref q.x) (J := TJ ms ((Lc + 1, oc) :: rest)) G9 ?hdp rfl rfl rfl (by simp) h0 (by omega) ?hJ ?hJ0 ?hstep ?hfin
  case hdp => omega
  case hJ => exact fun i ys l2 hj => ⟨k, hj.2.2.2.2 _ (.tail _ ht') (hWn htV)⟩
  case hJ0 =>
    intro ps' hps'
    refine ⟨by simp, ⟨⟨ps', .head _, hps'⟩, fun a ha => ?_⟩, fun q hq => (by simp at hq), fun q hq => ?_, fun z hz _ => .tail _ hz⟩
    · by_cases e : a = 389
      · subst e
        exact ⟨_, .head _, (by intro e; cases e), (by intro e; cases e), (by intro e; cases e)⟩
      · obtain ⟨o, ho, hp⟩ := hV a ha
        exact ⟨o, .tail _ (.tail _ (inr ho e)), hp⟩
    · have hq' : q ∈ ms := by simpa using hq
      exact q.preK l _ [389] (fun a ha => by rw [List.mem_singleton.mp ha]; exact ⟨h3V, h3a q hq'⟩) (fun z hz hn _ => .tail _ (.tail _ (inr hz (by simpa using hn)))) (hpre q hq')
  case hstep =>
    intro g2 S I C code oa i v ys l2 k2 oI mC h2 tk2 gs2 E' BG XG TG hoa hoI hi hv hJ F2 hm N2 off2
    have hlt : i < ms.length := hi
    have hqi : ms[i]? = some ms[i] := List.getElem?_eq_getElem hlt
    generalize ms[i] = q at hqi
    have hqm : q ∈ ms := List.mem_of_getElem? hqi
    have hvq : v = .ref q.x := by
      rw [List.getElem?_map, hqi] at hv
      exact (Option.some.inj hv).symm
    have hdrop : q ∈ ms.drop i := by
      have : (ms.drop i)[0]? = some q := by rw [List.getElem?_drop]; simpa using hqi
      exact List.mem_of_getElem? this
    have up : ∀ z ∈ l2, z ∈ (S, W.listOf ys.toArray k2) :: (a9, oa) :: (I, oI) :: l2 := fun z hz => .tail _ (.tail _ (.tail _ hz))
    have hout : ∀ {b : Addr}, (∀ z ∈ l2, z.1 ≠ b) → b ∉ q.Wr := fun hb hq => by
      obtain ⟨o, ho, _⟩ := hJ.2.1.2 _ (q.wrV _ hq)
      exact hb _ ho rfl
    refine rsv_turn q BG XG TG rfl rfl rfl rfl (up _ (hJ.2.2.2.2 _ (.head _) (hWn hcV))) dC F2 (by rw [← hvq]; exact hm) N2 (hJ.2.1.keep fun z hz _ => up z hz) (q.preK l2 _ [] (fun _ h => nomatch h) (fun z hz _ _ => up z hz) (hJ.2.2.2.1 q hdrop)) (by omega) (by omega) (fun _ => rfl) ?_
    intro l' h' tk' gs' F' N' hg' hR' hpost hk
    exact ⟨h', tk', gs', l', mC, rfl, F', N', hk _ (.head _) (hout fun z hz => (off2 z hz).1), hk _ (.tail _ (.head _)) (hout fun z hz => (off2 z hz).2.1), hk _ (.tail _ (.tail _ (.head _))) (hout fun z hz => (off2 z hz).2.2), hg', tj_step hP hqi hJ hR' hpost (fun z hz hn => hk z (up z hz) hn) N' (hk _ (.head _) (hout fun z hz => (off2 z hz).1)) (hk _ (.tail _ (.head _)) (hout fun z hz => (off2 z hz).2.1)) (hk _ (.tail _ (.tail _ (.head _))) (hout fun z hz => (off2 z hz).2.2)) rfl hoa hoI off2⟩
  case hfin =>
    intro ys l2 T h2 tk2 gs2 hJ hlen F2 N2 hlt hg
    obtain ⟨j1, j2, j3, j4, j5⟩ := hJ
    have hx2 : (x, (⟨.ref 451, some dx, .plain, #[some (.ref t), some idt, some (.str nm nt)]⟩ : Obj)) ∈ (T, tupO ys 0) :: l2 := .tail _ (j5 _ (.tail _ hx') hxW)
    have hTx : T ≠ x := Ne.symm (Nat.ne_of_lt (hlt _ (j5 _ (.tail _ hx') hxW)))
    have hd2 : (dx, dictOf [] 0) ∈ ((T, tupO ys 0) :: l2).filter (fun z => z.1 ≠ x) := List.mem_filter.mpr ⟨.tail _ (j5 _ (.tail _ hd') (hWn hdV)), decide_eq_true (fun e => hdV (by rw [show dx = x from e]; exact hxV))⟩
    have hT2 : (T, tupO ys 0) ∈ ((T, tupO ys 0) :: l2).filter (fun z => z.1 ≠ x) := List.mem_filter.mpr ⟨.head _, decide_eq_true hTx⟩
    have off3 := off_filter (news := (T, tupO ys 0) :: l2) (d := x)
    have N3 := focus N2 hx2
    have in3 : ∀ z ∈ l2, z.1 ≠ x → z ∈ ((T, tupO ys 0) :: l2).filter (fun z => z.1 ≠ x) := fun z hz hn => List.mem_filter.mpr ⟨.tail _ hz, decide_eq_true hn⟩
    generalize hg2 : ((T, tupO ys 0) :: l2).filter (fun z => z.1 ≠ x) = rest2 at *
    clear N2 N1 N
    k_steps
    have hTV : T ∉ V := fun h => by
      obtain ⟨o, ho, _⟩ := j2.2 _ h
      exact Nat.lt_irrefl _ (hlt _ ho)
    have ht9 : ms.take ms.length = ms := List.take_length
    rw [ht9] at j1 j3
    subst j1
    refine hret _ _ _ _ gs2 (by assumption) (by assumption) hg ⟨rfl, ⟨?_, fun a ha => ?_⟩, ⟨T, 0, hTV, .head _, .tail _ hT2, fun q hq => ?_⟩, fun z hz hzx hz3 hzW => .tail _ (in3 z (j5 _ (.tail _ (inr hz hz3)) hzW) hzx)⟩
    · obtain ⟨⟨ps2, hp2, ht2⟩, _⟩ := j2
      exact ⟨ps2, .tail _ (in3 _ hp2 (Ne.symm hx3)), ht2⟩
    · by_cases e : a = x
      · subst e
        exact ⟨_, .head _, (by intro e; cases e), (by intro e; cases e), (by intro e; cases e)⟩
      · obtain ⟨o, ho, hp⟩ := j2.2 _ ha
        exact ⟨o, .tail _ (in3 _ ho e), hp⟩
    · exact q.postK l2 _ [x] (fun a ha => by rw [List.mem_singleton.mp ha]; exact ⟨hxV, hxP q hq⟩) (fun z hz hn _ => .tail _ (in3 z hz (by simpa using hn))) (j3 q hq)
theorem comp_rsv489 (w : World) (V : List Addr) (mp : Addr) (kd ku : Nat) (ms : List (Rsv w V mp kd ku)) (hP : ms.Pairwise Apart) (h0 : 0 < ms.length) (hl : ms.length ≤ 100) (x dx t k : Addr) (idt : Value) (nm : Str) (nt : Tok) (hxV : x ∈ V) (h3V : 389 ∈ V) (hxW : ∀ q ∈ ms, x ∉ q.Wr) (hxP : ∀ q ∈ ms, x ∉ q.PostS) (h3a : ∀ q ∈ ms, 389 ∉ q.PreS) (hdV : dx ∉ V) (htV : t ∉ V)
    (l : Led) (hR : RI V l) (hx : (x, (⟨.ref 489, some dx, .plain, #[some (.bool true), some (.ref t), some idt, some (.str nm nt)]⟩ : Obj)) ∈ l) (hdg : (dx, dictOf [] 0) ∈ l) (ht : (t, tupO (ms.map fun q => .ref q.x) k) ∈ l) (hpre : ∀ q ∈ ms, q.pre l) :
    DoesG w (kd + 20) (ku + 100) (call (.ref 394) [.ref x, .ref mp]) l fun v l' => v = .ref x ∧ RI V l' ∧ (∃ t' k', t' ∉ V ∧ (x, (⟨.ref 489, some dx, .plain, #[some (.bool true), some (.ref t'), some idt, some (.str nm nt)]⟩ : Obj)) ∈ l' ∧ (t', tupO (ms.map fun q => .ref q.r) k') ∈ l' ∧ ∀ q ∈ ms, q.post l') ∧ ∀ z ∈ l, z.1 ≠ x → z.1 ≠ 389 → (∀ q ∈ ms, z.1 ∉ q.Wr) → z ∈ l' := by
  unfold DoesG
  k_fill
  intro dp un gd env outer A₀ base h₀ L mm s loose mean mg mb Q E hf hkk B F X N T hdp hun hret
  obtain ⟨⟨ps, hps, htr⟩, hV⟩ := hR
  have hx3 : x ≠ 389 := fun e => by
    have := sameAddr N (a := 389) (e ▸ hx) hps
    cases this
  have n3 : ∀ {a : Addr} {o : Obj}, (a, o) ∈ l → a ∉ V → a ≠ 389 := fun _ hn e => hn (e ▸ h3V)
  have inr : ∀ {z : Addr × Obj}, z ∈ l → z.1 ≠ 389 → z ∈ l.filter (fun z => z.1 ≠ 389) := fun hz hn => List.mem_filter.mpr ⟨hz, decide_eq_true hn⟩
  have hx' := inr hx hx3
  have hd' := inr hdg (n3 hdg hdV)
  have ht' := inr ht (n3 ht htV)
  have off := off_filter (news := l) (d := 389)
  have N0 := focus N hps
  have sub : ∀ z ∈ l.filter (fun z => z.1 ≠ 389), z ∈ l := fun z hz => (List.mem_filter.mp hz).1
  generalize hg : l.filter (fun z => z.1 ≠ 389) = rest at *
  have hxt : x ≠ t := fun e => htV (e ▸ hxV)
  clear N
  have N := N0
  clear N0
  refine wpAny_call ?_
  k_enter
  rename_i g1 Lc h1 tk1 FG1 F1 B1 X1 T1 l1 oc dC0 N1
  k_steps
  refine unstop ?_
  refine gen_eval (c := 393) (P := 389) (ps := ps) (news := (Lc + 1, oc) :: rest) (K := hd.heap_39 w.params) (h₀ := g1) (L := Lc) (cl := [(Str.ofString "rule_map", Lc + 1)]) F1 B1 X1 T1 rfl rfl rfl rfl ?room rfl (code_hd X1) htr ?hn rfl ?hclos ?hcell rfl rfl ?_ (fun _ => rfl)
  case room => k_room
  case hclos => with_unfolding_all rfl
  case hcell => decide
  case hn =>
    intro q hq
    rcases List.mem_cons.mp hq with rfl | hq
    · refine neN ?_
      have := l1.1
      dsimp only
      omega
    · exact off q hq
  have perm : ∀ q ∈ (389, tabObj ps) :: (Lc + 1, oc) :: rest, q ∈ (Lc + 1, oc) :: (389, tabObj ps) :: rest := fun q hq => by
    rcases List.mem_cons.mp hq with rfl | hq
    · exact .tail _ (.head _)
    · rcases List.mem_cons.mp hq with rfl | hq
      · exact .head _
      · exact .tail _ (.tail _ hq)
  k_steps
  refine unstop ⟨t, _, k, rfl, by k_asm, fun q hq => N1 q (perm q hq), .tail _ ht', fun a9 s9 G9 => ?_⟩
  k_steps
  refine unstop ?_
  have dC : oc.data = .cell (some (.ref mp)) := dC0
  have hltl : ∀ q ∈ rest, @LT.lt Nat _ q.1 Lc := fun q hq => kst_ltOf l1.2 q hq
  have hVlt : ∀ a ∈ V, @LT.lt Nat _ a Lc := fun a ha => by
    obtain ⟨o, ho, _⟩ := hV a ha
    by_cases e : a = 389
    · rw [e]; exact l1.1
    · exact hltl _ (inr ho e)
  have hcV : Lc + 1 ∉ V := fun h => by
    have e := hVlt _ h
    exact absurd e (Nat.not_lt.mpr (Nat.le_succ _))
  have hWn : ∀ {a : Addr}, a ∉ V → ∀ q ∈ ms, a ∉ q.Wr := fun ha q _ hq => ha (q.wrV _ hq)
  refine tuple_gen (dp := dp + 1) (un := un + 3) (gd := gd) (outer := env :: outer) (N := ms.length) (vs := ms.map fun q => Value.ref q.x) (J := TJ ms ((Lc + 1, oc) :: rest)) G9 ?hdp rfl rfl rfl (by simp) h0 (by omega) ?hJ ?hJ0 ?hstep ?hfin
  case hdp => omega
  case hJ => exact fun i ys l2 hj => ⟨k, hj.2.2.2.2 _ (.tail _ ht') (hWn htV)⟩
  case hJ0 =>
    intro ps' hps'
    refine ⟨by simp, ⟨⟨ps', .head _, hps'⟩, fun a ha => ?_⟩, fun q hq => (by simp at hq), fun q hq => ?_, fun z hz _ => .tail _ hz⟩
    · by_cases e : a = 389
      · subst e
        exact ⟨_, .head _, (by intro e; cases e), (by intro e; cases e), (by intro e; cases e)⟩
      · obtain ⟨o, ho, hp⟩ := hV a ha
        exact ⟨o, .tail _ (.tail _ (inr ho e)), hp⟩
    · have hq' : q ∈ ms := by simpa using hq
      exact q.preK l _ [389] (fun a ha => by rw [List.mem_singleton.mp ha]; exact ⟨h3V, h3a q hq'⟩) (fun z hz hn _ => .tail _ (.tail _ (inr hz (by simpa using hn)))) (hpre q hq')
  case hstep =>
    intro g2 S I C code oa i v ys l2 k2 oI mC h2 tk2 gs2 E' BG XG TG hoa hoI hi hv hJ F2 hm N2 off2
    have hlt : i < ms.length := hi
    have hqi : ms[i]? = some ms[i] := List.getElem?_eq_getElem hlt
    generalize ms[i] = q at hqi
    have hqm : q ∈ ms := List.mem_of_getElem? hqi
    have hvq : v = .ref q.x := by
      rw [List.getElem?_map, hqi] at hv
      exact (Option.some.inj hv).symm
    have hdrop : q ∈ ms.drop i := by
      have : (ms.drop i)[0]? = some q := by rw [List.getElem?_drop]; simpa using hqi
      exact List.mem_of_getElem? this
    have up : ∀ z ∈ l2, z ∈ (S, W.listOf ys.toArray k2) :: (a9, oa) :: (I, oI) :: l2 := fun z hz => .tail _ (.tail _ (.tail _ hz))
    have hout : ∀ {b : Addr}, (∀ z ∈ l2, z.1 ≠ b) → b ∉ q.Wr := fun hb hq => by
      obtain ⟨o, ho, _⟩ := hJ.2.1.2 _ (q.wrV _ hq)
      exact hb _ ho rfl
    refine rsv_turn q BG XG TG rfl rfl rfl rfl (up _ (hJ.2.2.2.2 _ (.head _) (hWn hcV))) dC F2 (by rw [← hvq]; exact hm) N2 (hJ.2.1.keep fun z hz _ => up z hz) (q.preK l2 _ [] (fun _ h => nomatch h) (fun z hz _ _ => up z hz) (hJ.2.2.2.1 q hdrop)) (by omega) (by omega) (fun _ => rfl) ?_
    intro l' h' tk' gs' F' N' hg' hR' hpost hk
    exact ⟨h', tk', gs', l', mC, rfl, F', N', hk _ (.head _) (hout fun z hz => (off2 z hz).1), hk _ (.tail _ (.head _)) (hout fun z hz => (off2 z hz).2.1), hk _ (.tail _ (.tail _ (.head _))) (hout fun z hz => (off2 z hz).2.2), hg', tj_step hP hqi hJ hR' hpost (fun z hz hn => hk z (up z hz) hn) N' (hk _ (.head _) (hout fun z hz => (off2 z hz).1)) (hk _ (.tail _ (.head _)) (hout fun z hz => (off2 z hz).2.1)) (hk _ (.tail _ (.tail _ (.head _))) (hout fun z hz => (off2 z hz).2.2)) rfl hoa hoI off2⟩
  case hfin =>
    intro ys l2 T h2 tk2 gs2 hJ hlen F2 N2 hlt hg
    obtain ⟨j1, j2, j3, j4, j5⟩ := hJ
    have hx2 : (x, (⟨.ref 489, some dx, .plain, #[some (.bool true), some (.ref t), some idt, some (.str nm nt)]⟩ : Obj)) ∈ (T, tupO ys 0) :: l2 := .tail _ (j5 _ (.tail _ hx') hxW)
    have hTx : T ≠ x := Ne.symm (Nat.ne_of_lt (hlt _ (j5 _ (.tail _ hx') hxW)))
    have hd2 : (dx, dictOf [] 0) ∈ ((T, tupO ys 0) :: l2).filter (fun z => z.1 ≠ x) := List.mem_filter.mpr ⟨.tail _ (j5 _ (.tail _ hd') (hWn hdV)), decide_eq_true (fun e => hdV (by rw [show dx = x from e]; exact hxV))⟩
    have hT2 : (T, tupO ys 0) ∈ ((T, tupO ys 0) :: l2).filter (fun z => z.1 ≠ x) := List.mem_filter.mpr ⟨.head _, decide_eq_true hTx⟩
    have off3 := off_filter (news := (T, tupO ys 0) :: l2) (d := x)
    have N3 := focus N2 hx2
    have in3 : ∀ z ∈ l2, z.1 ≠ x → z ∈ ((T, tupO ys 0) :: l2).filter (fun z => z.1 ≠ x) := fun z hz hn => List.mem_filter.mpr ⟨.tail _ hz, decide_eq_true hn⟩
    generalize hg2 : ((T, tupO ys 0) :: l2).filter (fun z => z.1 ≠ x) = rest2 at *
    clear N2 N1 N
    k_steps
    have hTV : T ∉ V := fun h => by
      obtain ⟨o, ho, _⟩ := j2.2 _ h
      exact Nat.lt_irrefl _ (hlt _ ho)
    have ht9 : ms.take ms.length = ms := List.take_length
    rw [ht9] at j1 j3
    subst j1
    refine hret _ _ _ _ gs2 (by assumption) (by assumption) hg ⟨rfl, ⟨?_, fun a ha => ?_⟩, ⟨T, 0, hTV, .head _, .tail _ hT2, fun q hq => ?_⟩, fun z hz hzx hz3 hzW => .tail _ (in3 z (j5 _ (.tail _ (inr hz hz3)) hzW) hzx)⟩
    · obtain ⟨⟨ps2, hp2, ht2⟩, _⟩ := j2
      exact ⟨ps2, .tail _ (in3 _ hp2 (Ne.symm hx3)), ht2⟩
    · by_cases e : a = x
      · subst e
        exact ⟨_, .head _, (by intro e; cases e), (by intro e; cases e), (by intro e; cases e)⟩
      · obtain ⟨o, ho, hp⟩ := j2.2 _ ha
        exact ⟨o, .tail _ (in3 _ ho e), hp⟩
    · exact q.postK l2 _ [x] (fun a ha => by rw [List.mem_singleton.mp ha]; exact ⟨hxV, hxP q hq⟩) (fun z hz hn _ => .tail _ (in3 z hz (by simpa using hn))) (j3 q hq)
end
section
theorem off_Ra : True := by
  w_top off
  exact True.intro
theorem unr_Ra {a b : Nat} (h : a < b) : a < b := h
local macro_rules | `(tactic| k_room) => `(tactic| ((try simp only [depth_under_make, depth_under_kw, depth_in1, depth_deeper, depth_caller]); (try dsimp only [ktrTop]); (try simp only [recursionLimit]); omega))
local macro_rules | `(tactic| k_units) => `(tactic| ((try simp only [units_in1, units_deeper, Around.mark_units, units_caller]); (try dsimp only [ktrTop]); (try simp only [cLine]); omega))
local macro_rules | `(tactic| k_enter) => `(tactic| (refine' code_def ?k1 ?k2 ?k3 ?k4 ?k5 ?kA ?kF ?kK ?k6 ?k7 ?k8 ?k9 ?kB ?_ ?c2 ?c3 ?c4 ?c5; (case kA => exact rfl); (case kF => exact rfl); (case kK => first | assumption | exact rfl); (case k1 => k_asm); (case k2 => k_asm); (case k3 => k_asm); (case k4 => k_asm); (case k5 => k_asm); (case k6 => k_is); (case k7 => k_is); (case k8 => k_room); (case k9 => first | exact BindsTo.of_eq rfl | exact binds_K (by k_in) rfl (by k_is) rfl rfl rfl | fail "k_enter: no rule for these arguments"); (case c5 => decide); (case kB => exact locs rfl); (case c2 => exact rfl); (case c3 => exact rfl); (case c4 => exact rfl); k_whole; intro g' L' h' FG' F' N' B' X' T'; (try dsimp only); (try k_lift B'); (try k_fold)))
local macro_rules | `(tactic| k_all) => `(tactic| (refine ne_of_below (by assumption) ?_; first | exact Nat.le_refl _ | omega))
local macro_rules | `(tactic| k_mem) => `(tactic| first | exact List.Mem.head _ | (refine List.Mem.tail _ ?_; k_mem) | assumption)
theorem DoesG.weaken {w : World} {kd ku kd' ku' : Nat} {t : Sem Value} {news : Led} {R R' : Value → Led → Prop} (h : DoesG w kd ku t news R) (h1 : kd ≤ kd') (h2 : ku ≤ ku') (hR : ∀ r l, R r l → R' r l) : DoesG w kd' ku' t news R' :=
  fun dp un gd env outer A₀ base h₀ L m s loose mean mg mb Q E hf hk B F X N T hdp hun hret => h dp un gd env outer A₀ base h₀ L m s loose mean mg mb Q E hf hk B F X N T (by omega) (by omega) fun r n' h' t' g' a b c d => hret r n' h' t' g' a b c (hR _ _ d)
section
variable {w : World} {A : Around} {E : Value → Shared → Prop} {s : Shared} {h₀ : Heap} {L x dx : Addr} {m : Str → Option Value} {l : Led} {pl : Sem Bool} {Q : Value × List Value → Shared → Prop}
local macro_rules | `(tactic| walk_at "my method") => `(tactic| (k_dflt (refine' method_inst ?k1 ?k2 ?k3 ?k4 ?k5 ?k6 ?k7 ?_; (case k1 => assumption); (case k2 => assumption); (case k3 => assumption); (case k4 => k_is); (case k5 => k_is); (case k6 => k_is); (case k7 => k_get); k_whole)))
theorem me367 {sl : Array (Option Value)} (X : (hd.heap_39 w.params).In h₀) (F : Fr h₀ L s.heap m) (N : News h₀ L s.heap l) (h1 : (x, (⟨.ref 367, some dx, .plain, sl⟩ : Obj)) ∈ l) (h2 : (dx, dictOf [] 0) ∈ l) (h : Q (.ref 274, [.ref x]) s) : wpAny (model PySem.Challenge.rw_vj0022_01.row.prog w) A (getMethod (.ref x) (Str.ofString "resolve_refs") pl) Q E s := by
  have I : InstAt s.heap x ⟨.ref 367, some dx, .plain, sl⟩ 367 (some (dictOf [] 0)) := ⟨(N _ h1).1, rfl, rfl, (N _ h2).1⟩
  revert X; k_fill; intro X
  walk_at "my method"
  exact h
theorem me425 {sl : Array (Option Value)} (X : (hd.heap_39 w.params).In h₀) (F : Fr h₀ L s.heap m) (N : News h₀ L s.heap l) (h1 : (x, (⟨.ref 425, some dx, .plain, sl⟩ : Obj)) ∈ l) (h2 : (dx, dictOf [] 0) ∈ l) (h : Q (.ref 394, [.ref x]) s) : wpAny (model PySem.Challenge.rw_vj0022_01.row.prog w) A (getMethod (.ref x) (Str.ofString "resolve_refs") pl) Q E s := by
  have I : InstAt s.heap x ⟨.ref 425, some dx, .plain, sl⟩ 425 (some (dictOf [] 0)) := ⟨(N _ h1).1, rfl, rfl, (N _ h2).1⟩
  revert X; k_fill; intro X
  walk_at "my method"
  exact h
theorem me451 {sl : Array (Option Value)} (X : (hd.heap_39 w.params).In h₀) (F : Fr h₀ L s.heap m) (N : News h₀ L s.heap l) (h1 : (x, (⟨.ref 451, some dx, .plain, sl⟩ : Obj)) ∈ l) (h2 : (dx, dictOf [] 0) ∈ l) (h : Q (.ref 394, [.ref x]) s) : wpAny (model PySem.Challenge.rw_vj0022_01.row.prog w) A (getMethod (.ref x) (Str.ofString "resolve_refs") pl) Q E s := by
  have I : InstAt s.heap x ⟨.ref 451, some dx, .plain, sl⟩ 451 (some (dictOf [] 0)) := ⟨(N _ h1).1, rfl, rfl, (N _ h2).1⟩
  revert X; k_fill; intro X
  walk_at "my method"
  exact h
theorem me489 {sl : Array (Option Value)} (X : (hd.heap_39 w.params).In h₀) (F : Fr h₀ L s.heap m) (N : News h₀ L s.heap l) (h1 : (x, (⟨.ref 489, some dx, .plain, sl⟩ : Obj)) ∈ l) (h2 : (dx, dictOf [] 0) ∈ l) (h : Q (.ref 394, [.ref x]) s) : wpAny (model PySem.Challenge.rw_vj0022_01.row.prog w) A (getMethod (.ref x) (Str.ofString "resolve_refs") pl) Q E s := by
  have I : InstAt s.heap x ⟨.ref 489, some dx, .plain, sl⟩ 489 (some (dictOf [] 0)) := ⟨(N _ h1).1, rfl, rfl, (N _ h2).1⟩
  revert X; k_fill; intro X
  walk_at "my method"
  exact h
theorem me523 {nm : Str} {tx : Tok} (X : (hd.heap_39 w.params).In h₀) (F : Fr h₀ L s.heap m) (N : News h₀ L s.heap l) (h1 : (x, (lzObj dx nm tx : Obj)) ∈ l) (h2 : (dx, dictOf [] 0) ∈ l) (h : Q (.ref 513, [.ref x]) s) : wpAny (model PySem.Challenge.rw_vj0022_01.row.prog w) A (getMethod (.ref x) (Str.ofString "resolve_refs") pl) Q E s := by
  have I : InstAt s.heap x (lzObj dx nm tx) 523 (some (dictOf [] 0)) := ⟨(N _ h1).1, rfl, rfl, (N _ h2).1⟩
  revert X; k_fill; intro X
  walk_at "my method"
  exact h
end
end
section
theorem off_Rb : True := by
  w_top off
  exact True.intro
local macro_rules | `(tactic| walk_at "off 0") => `(tactic| fail)
local macro_rules | `(tactic| walk_at "off 1") => `(tactic| fail)
theorem unr_Rb {a b : Nat} (h : a < b) : a < b := h
local macro_rules | `(tactic| k_room) => `(tactic| ((try simp only [depth_under_make, depth_under_kw, depth_in1, depth_deeper, depth_caller]); (try dsimp only [ktrTop]); (try simp only [recursionLimit]); omega))
local macro_rules | `(tactic| k_units) => `(tactic| ((try simp only [units_in1, units_deeper, Around.mark_units, units_caller]); (try dsimp only [ktrTop]); (try simp only [cLine]); omega))
local macro_rules | `(tactic| k_enter) => `(tactic| (refine' code_def ?k1 ?k2 ?k3 ?k4 ?k5 ?kA ?kF ?kK ?k6 ?k7 ?k8 ?k9 ?kB ?_ ?c2 ?c3 ?c4 ?c5; (case kA => exact rfl); (case kF => exact rfl); (case kK => first | assumption | exact rfl); (case k1 => k_asm); (case k2 => k_asm); (case k3 => k_asm); (case k4 => k_asm); (case k5 => k_asm); (case k6 => k_is); (case k7 => k_is); (case k8 => k_room); (case k9 => first | exact BindsTo.of_eq rfl | exact binds_K (by k_in) rfl (by k_is) rfl rfl rfl | fail "k_enter: no rule for these arguments"); (case c5 => decide); (case kB => exact locs rfl); (case c2 => exact rfl); (case c3 => exact rfl); (case c4 => exact rfl); k_whole; intro g' L' h' FG' F' N' B' X' T'; (try dsimp only); (try k_lift B'); (try k_fold)))
local macro_rules | `(tactic| k_all) => `(tactic| (refine ne_of_below (by assumption) ?_; first | exact Nat.le_refl _ | omega))
local macro_rules | `(tactic| k_mem) => `(tactic| first | exact List.Mem.head _ | (refine List.Mem.tail _ ?_; k_mem) | assumption)
theorem pl_ref {C : Addr} {dd : Option Addr} {d : Data} {sl : Array (Option Value)} : plainO ⟨.ref C, dd, d, sl⟩ := ⟨(by intro e; cases e), (by intro e; cases e), (by intro e; cases e)⟩
theorem pl_ty {o : Obj} {T : String} (h : o.cls = .type T) (h1 : T ≠ "list") (h2 : T ≠ "generator") (h3 : T ≠ "tuple_iterator") : plainO o := by
  refine ⟨fun e => ?_, fun e => ?_, fun e => ?_⟩ <;> rw [h] at e <;> injection e with e
  · exact h1 e
  · exact h2 e
  · exact h3 e
theorem pl_dict {es : List DictEntry} {n : Nat} : plainO (dictOf es n) := pl_ty rfl (by decide) (by decide) (by decide)
theorem pl_tup {vs : List Value} {k : Nat} : plainO (tupO vs k) := pl_ty rfl (by decide) (by decide) (by decide)
theorem kp274 {w : World} : keepIn (hd.heap_39 w.params) (.ref 274) = true := by refine kf ?_; k_fill; intro _; k_is
theorem kp394 {w : World} : keepIn (hd.heap_39 w.params) (.ref 394) = true := by refine kf ?_; k_fill; intro _; k_is
theorem kp513 {w : World} : keepIn (hd.heap_39 w.params) (.ref 513) = true := by refine kf ?_; k_fill; intro _; k_is
section
variable {w : World} {V : List Addr} {mp : Addr} {kd ku : Nat}
def rsvLit (h1 : 20 ≤ kd) (h2 : 100 ≤ ku) (x dx : Addr) (sl : Array (Option Value)) (hx : x ∉ V) (hdx : dx ∉ V) : Rsv w V mp kd ku where
  x := x
  r := x
  f := 274
  Wr := []
  PreS := []
  PostS := []
  pre l := (x, (⟨.ref 367, some dx, .plain, sl⟩ : Obj)) ∈ l ∧ (dx, dictOf [] 0) ∈ l
  post _ := True
  wrV := fun _ h => nomatch h
  preK := fun _ _ _ hU k hp => ⟨k _ hp.1 (fun h => hx (hU _ h).1) pl_ref, k _ hp.2 (fun h => hdx (hU _ h).1) pl_dict⟩
  postK := fun _ _ _ _ _ _ => trivial
  keepF := kp274
  meth := fun _ _ _ _ _ _ _ _ _ X F N hp hQ => me367 X F N hp.1 hp.2 hQ
  call := fun l hR _ => (lit_rsv w l x mp).weaken h1 h2 fun _ _ h => ⟨h.1, hR.keep (fun z hz _ => h.2 z hz), trivial, fun z hz _ => h.2 z hz⟩
def rsvLz (h1 : 40 ≤ kd) (h2 : 200 ≤ ku) (C : Addr) (hC : C = 451 ∨ C = 425) (x d root rd : Addr) (nm : Str) (tx : Tok) (om : Obj) (hnm : nm.length ≤ 100) (hom : om.IsDictOf (PySem.strKind theProg w) [(nm, .ref root)]) (hx : x ∉ V) (hdx : d ∉ V) (hmp : mp ∉ V) (hrd : rd ∉ V) : Rsv w V mp kd ku where
  x := x
  r := root
  f := 513
  Wr := []
  PreS := [root]
  PostS := []
  pre l := (x, lzObj d nm tx) ∈ l ∧ (d, dictOf [] 0) ∈ l ∧ (mp, om) ∈ l ∧ (∃ sl, (root, (⟨.ref C, some rd, .plain, sl⟩ : Obj)) ∈ l) ∧ (rd, dictOf [] 0) ∈ l
  post _ := True
  wrV := fun _ h => nomatch h
  preK := fun _ _ _ hU k hp => by
    obtain ⟨a1, a2, a3, ⟨sl, a4⟩, a5⟩ := hp
    have hcl : om.cls = .type "dict" := let ⟨_, _, y, _⟩ := hom; y.1
    exact ⟨k _ a1 (fun h => hx (hU _ h).1) pl_ref, k _ a2 (fun h => hdx (hU _ h).1) pl_dict, k _ a3 (fun h => hmp (hU _ h).1) (pl_ty hcl (by decide) (by decide) (by decide)), ⟨sl, k _ a4 (fun h => (hU _ h).2 (.head _)) pl_ref⟩, k _ a5 (fun h => hrd (hU _ h).1) pl_dict⟩
  postK := fun _ _ _ _ _ _ => trivial
  keepF := kp513
  meth := fun _ _ _ _ _ _ _ _ _ X F N hp hQ => me523 X F N hp.1 hp.2.1 hQ
  call := fun l hR hp => by
    obtain ⟨a1, a2, a3, ⟨sl, a4⟩, a5⟩ := hp
    rcases hC with rfl | rfl
    · exact (lz_rsv451 w l x d mp root rd nm tx om _ sl hnm a1 a3 hom a4 a5).weaken h1 h2 fun _ _ h => ⟨h.1, hR.keep (fun z hz _ => h.2 z hz), trivial, fun z hz _ => h.2 z hz⟩
    · exact (lz_rsv425 w l x d mp root rd nm tx om _ sl hnm a1 a3 hom a4 a5).weaken h1 h2 fun _ _ h => ⟨h.1, hR.keep (fun z hz _ => h.2 z hz), trivial, fun z hz _ => h.2 z hz⟩
def CompCall (w : World) (V : List Addr) (mp : Addr) (kd ku : Nat) (C : Addr) (sl : Addr → Array (Option Value)) : Prop :=
  ∀ (ms : List (Rsv w V mp kd ku)), ms.Pairwise Apart → 0 < ms.length → ms.length ≤ 100 → ∀ (x dx t k : Addr), x ∈ V → 389 ∈ V → (∀ q ∈ ms, x ∉ q.Wr) → (∀ q ∈ ms, x ∉ q.PostS) → (∀ q ∈ ms, 389 ∉ q.PreS) → dx ∉ V → t ∉ V → ∀ l, RI V l →
    (x, (⟨.ref C, some dx, .plain, sl t⟩ : Obj)) ∈ l → (dx, dictOf [] 0) ∈ l → (t, tupO (ms.map fun q => .ref q.x) k) ∈ l → (∀ q ∈ ms, q.pre l) →
    DoesG w (kd + 20) (ku + 100) (call (.ref 394) [.ref x, .ref mp]) l fun v l' => v = .ref x ∧ RI V l' ∧ (∃ t' k', t' ∉ V ∧ (x, (⟨.ref C, some dx, .plain, sl t'⟩ : Obj)) ∈ l' ∧ (t', tupO (ms.map fun q => .ref q.r) k') ∈ l' ∧ ∀ q ∈ ms, q.post l') ∧ ∀ z ∈ l, z.1 ≠ x → z.1 ≠ 389 → (∀ q ∈ ms, z.1 ∉ q.Wr) → z ∈ l'
abbrev slC (idt : Value) (nm : Str) (nt : Tok) (t : Addr) : Array (Option Value) := #[some (.ref t), some idt, some (.str nm nt)]
abbrev slN (idt : Value) (nm : Str) (nt : Tok) (t : Addr) : Array (Option Value) := #[some (.bool true), some (.ref t), some idt, some (.str nm nt)]
theorem cc425 (idt : Value) (nm : Str) (nt : Tok) : CompCall w V mp kd ku 425 (slC idt nm nt) := fun ms hP h0 hl x dx t k hxV h3V hxW hxP h3a hdV htV l hR hx hdg ht hpre => comp_rsv425 w V mp kd ku ms hP h0 hl x dx t k idt nm nt hxV h3V hxW hxP h3a hdV htV l hR hx hdg ht hpre
theorem cc451 (idt : Value) (nm : Str) (nt : Tok) : CompCall w V mp kd ku 451 (slC idt nm nt) := fun ms hP h0 hl x dx t k hxV h3V hxW hxP h3a hdV htV l hR hx hdg ht hpre => comp_rsv451 w V mp kd ku ms hP h0 hl x dx t k idt nm nt hxV h3V hxW hxP h3a hdV htV l hR hx hdg ht hpre
theorem cc489 (idt : Value) (nm : Str) (nt : Tok) : CompCall w V mp kd ku 489 (slN idt nm nt) := fun ms hP h0 hl x dx t k hxV h3V hxW hxP h3a hdV htV l hR hx hdg ht hpre => comp_rsv489 w V mp kd ku ms hP h0 hl x dx t k idt nm nt hxV h3V hxW hxP h3a hdV htV l hR hx hdg ht hpre
def rsvComp (C : Addr) (hC : C = 425 ∨ C = 451 ∨ C = 489) (sl : Addr → Array (Option Value)) (hcall : CompCall w V mp kd ku C sl) (ms : List (Rsv w V mp kd ku)) (hP : ms.Pairwise Apart) (h0 : 0 < ms.length) (hl : ms.length ≤ 100) (x dx t k : Addr) (hxV : x ∈ V) (h3V : 389 ∈ V) (hxW : ∀ q ∈ ms, x ∉ q.Wr) (hxP : ∀ q ∈ ms, x ∉ q.PostS) (h3a : ∀ q ∈ ms, 389 ∉ q.PreS) (hdV : dx ∉ V) (htV : t ∉ V) : Rsv w V mp (kd + 20) (ku + 100) where
  x := x
  r := x
  f := 394
  Wr := 389 :: x :: ms.flatMap (·.Wr)
  PreS := x :: ms.flatMap (·.PreS)
  PostS := x :: ms.flatMap (·.PostS)
  pre l := (x, (⟨.ref C, some dx, .plain, sl t⟩ : Obj)) ∈ l ∧ (dx, dictOf [] 0) ∈ l ∧ (t, tupO (ms.map fun q => .ref q.x) k) ∈ l ∧ ∀ q ∈ ms, q.pre l
  post l := ∃ t' k', t' ∉ V ∧ (x, (⟨.ref C, some dx, .plain, sl t'⟩ : Obj)) ∈ l ∧ (t', tupO (ms.map fun q => .ref q.r) k') ∈ l ∧ ∀ q ∈ ms, q.post l
  wrV := fun a ha => by
    rcases List.mem_cons.mp ha with rfl | ha
    · exact h3V
    · rcases List.mem_cons.mp ha with rfl | ha
      · exact hxV
      · obtain ⟨q, hq, h⟩ := List.mem_flatMap.mp ha
        exact q.wrV _ h
  preK := fun l l' U hU k hp => by
    obtain ⟨a1, a2, a3, a4⟩ := hp
    exact ⟨k _ a1 (fun h => (hU _ h).2 (.head _)) pl_ref, k _ a2 (fun h => hdV (hU _ h).1) pl_dict, k _ a3 (fun h => htV (hU _ h).1) pl_tup, fun q hq => q.preK l l' U (fun a ha => ⟨(hU a ha).1, fun h => (hU a ha).2 (.tail _ (List.mem_flatMap.mpr ⟨q, hq, h⟩))⟩) k (a4 q hq)⟩
  postK := fun l l' U hU k hp => by
    obtain ⟨t', k', a0, a1, a3, a4⟩ := hp
    exact ⟨t', k', a0, k _ a1 (fun h => (hU _ h).2 (.head _)) pl_ref, k _ a3 (fun h => a0 (hU _ h).1) pl_tup, fun q hq => q.postK l l' U (fun a ha => ⟨(hU a ha).1, fun h => (hU a ha).2 (.tail _ (List.mem_flatMap.mpr ⟨q, hq, h⟩))⟩) k (a4 q hq)⟩
  keepF := kp394
  meth := fun _ _ _ _ _ _ _ _ _ X F N hp hQ => by
    rcases hC with rfl | rfl | rfl
    · exact me425 X F N hp.1 hp.2.1 hQ
    · exact me451 X F N hp.1 hp.2.1 hQ
    · exact me489 X F N hp.1 hp.2.1 hQ
  call := fun l hR hp => (hcall ms hP h0 hl x dx t k hxV h3V hxW hxP h3a hdV htV l hR hp.1 hp.2.1 hp.2.2.1 hp.2.2.2).weaken (Nat.le_refl _) (Nat.le_refl _) fun v l' h => ⟨h.1, h.2.1, h.2.2.1, fun z hz hn => h.2.2.2 z hz (fun e => hn (by rw [e]; exact .tail _ (.head _))) (fun e => hn (by rw [e]; exact .head _)) fun q hq h => hn (.tail _ (.tail _ (List.mem_flatMap.mpr ⟨q, hq, h⟩)))⟩
end
end
section
theorem off_Rc : True := by
  w_top off
  exact True.intro
theorem unr_Rc {a b : Nat} (h : a < b) : a < b := h
local macro_rules | `(tactic| k_room) => `(tactic| ((try simp only [depth_under_make, depth_under_kw, depth_in1, depth_deeper, depth_caller]); (try dsimp only [ktrTop]); (try simp only [recursionLimit]); omega))
local macro_rules | `(tactic| k_units) => `(tactic| ((try simp only [units_in1, units_deeper, Around.mark_units, units_caller]); (try dsimp only [ktrTop]); (try simp only [cLine]); omega))
local macro_rules | `(tactic| k_enter) => `(tactic| (refine' code_def ?k1 ?k2 ?k3 ?k4 ?k5 ?kA ?kF ?kK ?k6 ?k7 ?k8 ?k9 ?kB ?_ ?c2 ?c3 ?c4 ?c5; (case kA => exact rfl); (case kF => exact rfl); (case kK => first | assumption | exact rfl); (case k1 => k_asm); (case k2 => k_asm); (case k3 => k_asm); (case k4 => k_asm); (case k5 => k_asm); (case k6 => k_is); (case k7 => k_is); (case k8 => k_room); (case k9 => first | exact BindsTo.of_eq rfl | exact binds_K (by k_in) rfl (by k_is) rfl rfl rfl | fail "k_enter: no rule for these arguments"); (case c5 => decide); (case kB => exact locs rfl); (case c2 => exact rfl); (case c3 => exact rfl); (case c4 => exact rfl); k_whole; intro g' L' h' FG' F' N' B' X' T'; (try dsimp only); (try k_lift B'); (try k_fold)))
local macro_rules | `(tactic| k_all) => `(tactic| (refine ne_of_below (by assumption) ?_; first | exact Nat.le_refl _ | omega))
local macro_rules | `(tactic| k_mem) => `(tactic| first | exact List.Mem.head _ | (refine List.Mem.tail _ ?_; k_mem) | assumption)
/-- the tree of one word: a literal, a reference, a lookahead, a sequence -/
structure TA where
  ld : Addr
  lit : Addr
  zd : Addr
  z : Addr
  nd : Addr
  n : Addr
  sd : Addr
  s : Addr
  nt : Addr
  st : Addr
  lid : Value
  nid : Value
  sid : Value
  tw : Tok
  lnt : Tok
  zk : Tok
  nnt : Tok
  snt : Tok
  nk : Nat
  sk : Nat
abbrev eS : Str := Str.ofString ""
abbrev TA.litO (T : TA) (wd : Str) : Obj := ⟨.ref 367, some T.ld, .plain, #[some (.str wd T.tw), some T.lid, some (.str eS T.lnt)]⟩
abbrev TA.nO (T : TA) (t : Addr) : Obj := ⟨.ref 489, some T.nd, .plain, slN T.nid eS T.nnt t⟩
abbrev TA.sO (T : TA) (t : Addr) : Obj := ⟨.ref 425, some T.sd, .plain, slC T.sid eS T.snt t⟩
/-- as it was made; b: it holds for wins (the lookahead inside) or for loses (the sequence inside) -/
structure TrAt (b : Bool) (nm : Str) (wd : Str) (l : Led) (T : TA) : Prop where
  lit : (T.lit, T.litO wd) ∈ l
  ld : (T.ld, dictOf [] 0) ∈ l
  z : (T.z, lzObj T.zd nm T.zk) ∈ l
  zd : (T.zd, dictOf [] 0) ∈ l
  n : (T.n, T.nO T.nt) ∈ l
  nd : (T.nd, dictOf [] 0) ∈ l
  s : (T.s, T.sO T.st) ∈ l
  sd : (T.sd, dictOf [] 0) ∈ l
  nt : (T.nt, tupO [.ref (if b then T.z else T.s)] T.nk) ∈ l
  st : (T.st, tupO [.ref T.lit, .ref (if b then T.n else T.z)] T.sk) ∈ l
/-- as it stands when its references are resolved -/
structure TrDn (b : Bool) (root : Addr) (l : Led) (T : TA) : Prop where
  n : ∃ t k, (T.n, T.nO t) ∈ l ∧ (t, tupO [.ref (if b then root else T.s)] k) ∈ l
  s : ∃ t k, (T.s, T.sO t) ∈ l ∧ (t, tupO [.ref T.lit, .ref (if b then T.n else root)] k) ∈ l
def wV (root : Addr) (Ts : List TA) : List Addr := 389 :: root :: Ts.flatMap fun T => [T.n, T.s]
structure TrOk (V : List Addr) (root rd mp : Addr) (T : TA) : Prop where
  nV : T.n ∈ V
  sV : T.s ∈ V
  lit : T.lit ∉ V
  ld : T.ld ∉ V
  z : T.z ∉ V
  zd : T.zd ∉ V
  nd : T.nd ∉ V
  sd : T.sd ∉ V
  nt : T.nt ∉ V
  st : T.st ∉ V
  n3 : T.n ≠ 389
  s3 : T.s ≠ 389
  ns : T.n ≠ T.s
  nr : T.n ≠ root
  sr : T.s ≠ root
section
variable {w : World} {V : List Addr} {mp root rd : Addr} {nm : Str} {om : Obj}
theorem one_pair {w : World} {V : List Addr} {mp : Addr} {kd ku : Nat} (q : Rsv w V mp kd ku) : [q].Pairwise Apart := List.pairwise_singleton _ _
def wNot (hnm : nm.length ≤ 100) (hom : om.IsDictOf (PySem.strKind theProg w) [(nm, .ref root)]) (hmp : mp ∉ V) (hrd : rd ∉ V) (h3 : 389 ∈ V) (hr3 : root ≠ 389) (T : TA) (H : TrOk V root rd mp T) : Rsv w V mp 60 300 :=
  rsvComp (kd := 40) (ku := 200) 489 (.inr (.inr rfl)) (slN T.nid eS T.nnt) (cc489 _ _ _) [rsvLz (Nat.le_refl _) (Nat.le_refl _) 451 (.inl rfl) T.z T.zd root rd nm T.zk om hnm hom H.z H.zd hmp hrd] (one_pair _) (Nat.succ_pos _) (by show 1 ≤ 100; decide) T.n T.nd T.nt T.nk H.nV h3
    (fun q hq => by rw [List.mem_singleton.mp hq]; exact fun h => nomatch h) (fun q hq => by rw [List.mem_singleton.mp hq]; exact fun h => nomatch h) (fun q hq => by rw [List.mem_singleton.mp hq]; exact fun h => hr3 (List.mem_singleton.mp h).symm) H.nd H.nt
def wSeq (hnm : nm.length ≤ 100) (hom : om.IsDictOf (PySem.strKind theProg w) [(nm, .ref root)]) (hmp : mp ∉ V) (hrd : rd ∉ V) (h3 : 389 ∈ V) (hr3 : root ≠ 389) (wd : Str) (T : TA) (H : TrOk V root rd mp T) : Rsv w V mp 80 400 :=
  rsvComp (kd := 60) (ku := 300) 425 (.inl rfl) (slC T.sid eS T.snt) (cc425 _ _ _) [rsvLit (by decide) (by decide) T.lit T.ld #[some (.str wd T.tw), some T.lid, some (.str eS T.lnt)] H.lit H.ld, wNot hnm hom hmp hrd h3 hr3 T H]
    (List.pairwise_cons.mpr ⟨fun q hq => by rw [List.mem_singleton.mp hq]; exact ⟨fun _ h => (nomatch h), fun _ _ h => (nomatch h)⟩, one_pair _⟩) (Nat.succ_pos _) (by show 2 ≤ 100; decide) T.s T.sd T.st T.sk H.sV h3
    (fun q hq => by
      rcases List.mem_cons.mp hq with rfl | hq
      · exact fun h => nomatch h
      · rw [List.mem_singleton.mp hq]
        intro h
        rcases List.mem_cons.mp h with h | h
        · exact H.s3 h
        · rcases List.mem_cons.mp h with h | h
          · exact H.ns h.symm
          · exact nomatch h)
    (fun q hq => by
      rcases List.mem_cons.mp hq with rfl | hq
      · exact fun h => nomatch h
      · rw [List.mem_singleton.mp hq]
        intro h
        rcases List.mem_cons.mp h with h | h
        · exact H.ns h.symm
        · exact nomatch h)
    (fun q hq => by
      rcases List.mem_cons.mp hq with rfl | hq
      · exact fun h => nomatch h
      · rw [List.mem_singleton.mp hq]
        intro h
        rcases List.mem_cons.mp h with h | h
        · exact H.n3 h.symm
        · rcases List.mem_cons.mp h with h | h
          · exact hr3 h.symm
          · exact nomatch h) H.sd H.st
def lSeq (hnm : nm.length ≤ 100) (hom : om.IsDictOf (PySem.strKind theProg w) [(nm, .ref root)]) (hmp : mp ∉ V) (hrd : rd ∉ V) (h3 : 389 ∈ V) (hr3 : root ≠ 389) (wd : Str) (T : TA) (H : TrOk V root rd mp T) : Rsv w V mp 60 300 :=
  rsvComp (kd := 40) (ku := 200) 425 (.inl rfl) (slC T.sid eS T.snt) (cc425 _ _ _) [rsvLit (by decide) (by decide) T.lit T.ld #[some (.str wd T.tw), some T.lid, some (.str eS T.lnt)] H.lit H.ld, rsvLz (Nat.le_refl _) (Nat.le_refl _) 425 (.inr rfl) T.z T.zd root rd nm T.zk om hnm hom H.z H.zd hmp hrd]
    (List.pairwise_cons.mpr ⟨fun q hq => by rw [List.mem_singleton.mp hq]; exact ⟨fun _ h => (nomatch h), fun _ h => (nomatch h)⟩, one_pair _⟩) (Nat.succ_pos _) (by show 2 ≤ 100; decide) T.s T.sd T.st T.sk H.sV h3
    (fun q hq => by
      rcases List.mem_cons.mp hq with rfl | hq
      · exact fun h => nomatch h
      · rw [List.mem_singleton.mp hq]
        exact fun h => nomatch h)
    (fun q hq => by
      rcases List.mem_cons.mp hq with rfl | hq
      · exact fun h => nomatch h
      · rw [List.mem_singleton.mp hq]
        exact fun h => nomatch h)
    (fun q hq => by
      rcases List.mem_cons.mp hq with rfl | hq
      · exact fun h => nomatch h
      · rw [List.mem_singleton.mp hq]
        intro h
        rcases List.mem_cons.mp h with h | h
        · exact hr3 h.symm
        · exact nomatch h) H.sd H.st
def lNot (hnm : nm.length ≤ 100) (hom : om.IsDictOf (PySem.strKind theProg w) [(nm, .ref root)]) (hmp : mp ∉ V) (hrd : rd ∉ V) (h3 : 389 ∈ V) (hr3 : root ≠ 389) (wd : Str) (T : TA) (H : TrOk V root rd mp T) : Rsv w V mp 80 400 :=
  rsvComp (kd := 60) (ku := 300) 489 (.inr (.inr rfl)) (slN T.nid eS T.nnt) (cc489 _ _ _) [lSeq hnm hom hmp hrd h3 hr3 wd T H] (one_pair _) (Nat.succ_pos _) (by show 1 ≤ 100; decide) T.n T.nd T.nt T.nk H.nV h3
    (fun q hq => by
      rw [List.mem_singleton.mp hq]
      intro h
      rcases List.mem_cons.mp h with h | h
      · exact H.n3 h
      · rcases List.mem_cons.mp h with h | h
        · exact H.ns h
        · exact nomatch h)
    (fun q hq => by
      rw [List.mem_singleton.mp hq]
      intro h
      rcases List.mem_cons.mp h with h | h
      · exact H.ns h
      · exact nomatch h)
    (fun q hq => by
      rw [List.mem_singleton.mp hq]
      intro h
      rcases List.mem_cons.mp h with h | h
      · exact H.s3 h.symm
      · rcases List.mem_cons.mp h with h | h
        · exact hr3 h.symm
        · exact nomatch h) H.nd H.nt
end
end
section
theorem off_Rd2 : True := by
  w_top off
  exact True.intro
theorem unr_Rd2 {a b : Nat} (h : a < b) : a < b := h
local macro_rules | `(tactic| k_room) => `(tactic| ((try simp only [depth_under_make, depth_under_kw, depth_in1, depth_deeper, depth_caller]); (try dsimp only [ktrTop]); (try simp only [recursionLimit]); omega))
local macro_rules | `(tactic| k_units) => `(tactic| ((try simp only [units_in1, units_deeper, Around.mark_units, units_caller]); (try dsimp only [ktrTop]); (try simp only [cLine]); omega))
local macro_rules | `(tactic| k_enter) => `(tactic| (refine' code_def ?k1 ?k2 ?k3 ?k4 ?k5 ?kA ?kF ?kK ?k6 ?k7 ?k8 ?k9 ?kB ?_ ?c2 ?c3 ?c4 ?c5; (case kA => exact rfl); (case kF => exact rfl); (case kK => first | assumption | exact rfl); (case k1 => k_asm); (case k2 => k_asm); (case k3 => k_asm); (case k4 => k_asm); (case k5 => k_asm); (case k6 => k_is); (case k7 => k_is); (case k8 => k_room); (case k9 => first | exact BindsTo.of_eq rfl | exact binds_K (by k_in) rfl (by k_is) rfl rfl rfl | fail "k_enter: no rule for these arguments"); (case c5 => decide); (case kB => exact locs rfl); (case c2 => exact rfl); (case c3 => exact rfl); (case c4 => exact rfl); k_whole; intro g' L' h' FG' F' N' B' X' T'; (try dsimp only); (try k_lift B'); (try k_fold)))
local macro_rules | `(tactic| k_all) => `(tactic| (refine ne_of_below (by assumption) ?_; first | exact Nat.le_refl _ | omega))
local macro_rules | `(tactic| k_mem) => `(tactic| first | exact List.Mem.head _ | (refine List.Mem.tail _ ?_; k_mem) | assumption)
section
variable {w : World} {V : List Addr} {mp root rd : Addr} {nm : Str} {om : Obj}
def trR (b : Bool) (hnm : nm.length ≤ 100) (hom : om.IsDictOf (PySem.strKind theProg w) [(nm, .ref root)]) (hmp : mp ∉ V) (hrd : rd ∉ V) (h3 : 389 ∈ V) (hr3 : root ≠ 389) (p : TA × Str) (H : TrOk V root rd mp p.1) : Rsv w V mp 80 400 :=
  match b with
  | true => wSeq hnm hom hmp hrd h3 hr3 p.2 p.1 H
  | false => lNot hnm hom hmp hrd h3 hr3 p.2 p.1 H
variable {b : Bool} {hnm : nm.length ≤ 100} {hom : om.IsDictOf (PySem.strKind theProg w) [(nm, .ref root)]} {hmp : mp ∉ V} {hrd : rd ∉ V} {h3 : 389 ∈ V} {hr3 : root ≠ 389} {p : TA × Str} {H : TrOk V root rd mp p.1}
theorem trR_wr {a : Addr} (h : a ∈ (trR b hnm hom hmp hrd h3 hr3 p H).Wr) : a = 389 ∨ a = p.1.n ∨ a = p.1.s := by
  cases b <;> simp [trR, wSeq, lNot, wNot, lSeq, rsvComp, rsvLit, rsvLz] at h <;> grind
theorem trR_pre {a : Addr} (h : a ∈ (trR b hnm hom hmp hrd h3 hr3 p H).PreS) : a = p.1.n ∨ a = p.1.s ∨ a = root := by
  cases b <;> simp [trR, wSeq, lNot, wNot, lSeq, rsvComp, rsvLit, rsvLz] at h <;> grind
theorem trR_post {a : Addr} (h : a ∈ (trR b hnm hom hmp hrd h3 hr3 p H).PostS) : a = p.1.n ∨ a = p.1.s := by
  cases b <;> simp [trR, wSeq, lNot, wNot, lSeq, rsvComp, rsvLit, rsvLz] at h <;> grind
theorem trR_x : (trR b hnm hom hmp hrd h3 hr3 p H).x = if b then p.1.s else p.1.n := by cases b <;> rfl
theorem trR_r : (trR b hnm hom hmp hrd h3 hr3 p H).r = if b then p.1.s else p.1.n := by cases b <;> rfl
theorem trR_ok {l : Led} (h : TrAt b nm p.2 l p.1) (hm : (mp, om) ∈ l) (hr : ∃ sl, (root, (⟨.ref (if b then 451 else 425), some rd, .plain, sl⟩ : Obj)) ∈ l) (hd : (rd, dictOf [] 0) ∈ l) : (trR b hnm hom hmp hrd h3 hr3 p H).pre l := by
  cases b
  · refine ⟨h.n, h.nd, h.nt, fun q hq => ?_⟩
    rw [List.mem_singleton.mp hq]
    refine ⟨h.s, h.sd, h.st, fun q hq => ?_⟩
    rcases List.mem_cons.mp hq with rfl | hq
    · exact ⟨h.lit, h.ld⟩
    · rw [List.mem_singleton.mp hq]
      exact ⟨h.z, h.zd, hm, hr, hd⟩
  · refine ⟨h.s, h.sd, h.st, fun q hq => ?_⟩
    rcases List.mem_cons.mp hq with rfl | hq
    · exact ⟨h.lit, h.ld⟩
    · rw [List.mem_singleton.mp hq]
      refine ⟨h.n, h.nd, h.nt, fun q hq => ?_⟩
      rw [List.mem_singleton.mp hq]
      exact ⟨h.z, h.zd, hm, hr, hd⟩
theorem trR_dn {l : Led} (h : (trR b hnm hom hmp hrd h3 hr3 p H).post l) : TrDn b root l p.1 := by
  cases b
  · obtain ⟨t, k, _, a1, a2, a3⟩ := h
    obtain ⟨t2, k2, _, b1, b2, _⟩ := a3 _ (.head _)
    exact ⟨⟨t, k, a1, a2⟩, t2, k2, b1, b2⟩
  · obtain ⟨t, k, _, a1, a2, a3⟩ := h
    obtain ⟨t2, k2, _, b1, b2, _⟩ := a3 _ (.tail _ (.head _))
    exact ⟨⟨t2, k2, b1, b2⟩, t, k, a1, a2⟩
end
/-- resolve_refs of a root: all the trees under it are resolved -/
theorem root_rsv (w : World) (b : Bool) (nm : Str) (hnm : nm.length ≤ 100) (l : Led) (hfun : ∀ a o o', (a, o) ∈ l → (a, o') ∈ l → o = o') (ps : Array Value) (h3 : (389, tabObj ps) ∈ l) (htr : TriplesOk ps.toList) (root rd rt rk mp : Addr) (rid : Value) (rnt : Tok) (om : Obj) (hom : om.IsDictOf (PySem.strKind theProg w) [(nm, .ref root)]) (hm : (mp, om) ∈ l)
    (Ts : List (TA × Str)) (h0 : 0 < Ts.length) (hl : Ts.length ≤ 100) (hT : ∀ p ∈ Ts, TrAt b nm p.2 l p.1) (hP : Ts.Pairwise fun A B => A.1.n ≠ B.1.n ∧ A.1.s ≠ B.1.s) (hsr : ∀ p ∈ Ts, p.1.s ≠ root)
    (hr : (root, (⟨.ref (if b then 451 else 425), some rd, .plain, slC rid nm rnt rt⟩ : Obj)) ∈ l) (hrd : (rd, dictOf [] 0) ∈ l) (hrt : (rt, tupO (Ts.map fun p => .ref (if b then p.1.s else p.1.n)) rk) ∈ l) :
    DoesG w 100 500 (call (.ref 394) [.ref root, .ref mp]) l fun v l' => v = .ref root ∧ (∃ ps : Array Value, (389, tabObj ps) ∈ l' ∧ TriplesOk ps.toList) ∧ (∃ t k, (root, (⟨.ref (if b then 451 else 425), some rd, .plain, slC rid nm rnt t⟩ : Obj)) ∈ l' ∧ (t, tupO (Ts.map fun p => .ref (if b then p.1.s else p.1.n)) k) ∈ l') ∧
      (∀ p ∈ Ts, TrDn b root l' p.1) ∧ ∀ z ∈ l, z.1 ∉ wV root (Ts.map (·.1)) → z ∈ l' := by
  have hcm : om.cls = .type "dict" := let ⟨_, _, y, _⟩ := hom; y.1
  have clash : ∀ {a : Addr} {o o' : Obj}, (a, o) ∈ l → (a, o') ∈ l → o.cls ≠ o'.cls → False := fun h1 h2 hc => hc (by rw [hfun _ _ _ h1 h2])
  have inV : ∀ {a : Addr}, a ∈ wV root (Ts.map (·.1)) → a = 389 ∨ a = root ∨ ∃ p ∈ Ts, a = p.1.n ∨ a = p.1.s := fun ha => by
    unfold wV at ha
    simpa [List.mem_flatMap] using ha
  have notV : ∀ {a : Addr} {o : Obj}, (a, o) ∈ l → o.cls ≠ .none → (∀ c, o.cls = .ref c → c ≠ 451 ∧ c ≠ 425 ∧ c ≠ 489) → a ∉ wV root (Ts.map (·.1)) := fun ho h1 h2 ha => by
    rcases inV ha with rfl | rfl | ⟨p, hp, rfl | rfl⟩
    · exact clash ho h3 h1
    · refine clash ho hr fun e => ?_
      have := h2 _ e
      cases b
      · exact this.2.1 rfl
      · exact this.1 rfl
    · exact clash ho (hT p hp).n fun e => (h2 _ e).2.2 rfl
    · exact clash ho (hT p hp).s fun e => (h2 _ e).2.1 rfl
  have dNot : ∀ {a : Addr} {es : List DictEntry} {n : Nat}, (a, dictOf es n) ∈ l → a ∉ wV root (Ts.map (·.1)) := fun ho => notV ho (by intro e; cases e) (fun c e => by cases e)
  have tNot : ∀ {a : Addr} {vs : List Value} {n : Nat}, (a, tupO vs n) ∈ l → a ∉ wV root (Ts.map (·.1)) := fun ho => notV ho (by intro e; cases e) (fun c e => by cases e)
  have nV : ∀ p ∈ Ts, p.1.n ∈ wV root (Ts.map (·.1)) ∧ p.1.s ∈ wV root (Ts.map (·.1)) := fun p hp => by
    unfold wV
    constructor <;> refine .tail _ (.tail _ (List.mem_flatMap.mpr ⟨p.1, List.mem_map_of_mem hp, by simp⟩))
  have hr3 : root ≠ 389 := fun e => by
    subst e
    exact clash hr h3 (by intro e; cases e)
  have ok : ∀ p ∈ Ts, TrOk (wV root (Ts.map (·.1))) root rd mp p.1 := fun p hp => by
    have H := hT p hp
    have n1 := nV p hp
    exact ⟨n1.1, n1.2, notV H.lit (by intro e; cases e) (fun c e => by injection e with e; subst e; decide), dNot H.ld, notV H.z (by intro e; cases e) (fun c e => by injection e with e; subst e; decide), dNot H.zd, dNot H.nd, dNot H.sd, tNot H.nt, tNot H.st,
      fun e => clash (e ▸ H.n) h3 (by intro e; cases e), fun e => clash (e ▸ H.s) h3 (by intro e; cases e), fun e => clash H.n (e ▸ H.s) (by intro e; cases e), fun e => clash H.n (e ▸ hr) (by cases b <;> (intro e; cases e)), hsr p hp⟩
  have hV3 : 389 ∈ wV root (Ts.map (·.1)) := .head _
  have hVr : root ∈ wV root (Ts.map (·.1)) := .tail _ (.head _)
  have hmp := notV hm (by rw [hcm]; intro e; cases e) (fun c e => by rw [hcm] at e; cases e)
  have hrdV := dNot hrd
  have hrtV := tNot hrt
  let ms : List (Rsv w (wV root (Ts.map (·.1))) mp 80 400) := Ts.pmap (fun p H => trR b hnm hom hmp hrdV hV3 hr3 p H) ok
  have hmem : ∀ q ∈ ms, ∃ p, ∃ hp : p ∈ Ts, q = trR b hnm hom hmp hrdV hV3 hr3 p (ok p hp) := fun q hq => by
    obtain ⟨p, hp, e⟩ := List.mem_pmap.mp hq
    exact ⟨p, hp, e.symm⟩
  have hlen : ms.length = Ts.length := List.length_pmap
  have hmx : ms.map (fun q => Value.ref q.x) = Ts.map fun p => .ref (if b then p.1.s else p.1.n) := by
    show (Ts.pmap _ ok).map _ = _
    rw [List.map_pmap]
    simp only [trR_x]
    exact List.pmap_eq_map ..
  have hmr : ms.map (fun q => Value.ref q.r) = Ts.map fun p => .ref (if b then p.1.s else p.1.n) := by
    show (Ts.pmap _ ok).map _ = _
    rw [List.map_pmap]
    simp only [trR_r]
    exact List.pmap_eq_map ..
  have hap : ms.Pairwise Apart := by
    refine List.Pairwise.pmap (R := fun A B => A.1.n ≠ B.1.n ∧ A.1.s ≠ B.1.s ∧ A.1.n ≠ B.1.s ∧ A.1.s ≠ B.1.n) ?_ ok fun p hp q hq hpq => ⟨fun a ha hb => ?_, fun a ha hb => ?_⟩
    · refine hP.imp_of_mem fun {A B} hA hB h => ⟨h.1, h.2, fun e => clash (hT A hA).n (e ▸ (hT B hB).s) (by intro e; cases e), fun e => clash (hT A hA).s (e ▸ (hT B hB).n) (by intro e; cases e)⟩
    · obtain ⟨h1, h2, h4, h5⟩ := hpq
      rcases trR_wr ha with rfl | rfl | rfl <;> rcases trR_pre hb with e | e | e
      · exact hq.n3 e.symm
      · exact hq.s3 e.symm
      · exact hr3 e.symm
      · exact h1 e
      · exact h4 e
      · exact hp.nr e
      · exact h5 e
      · exact h2 e
      · exact hp.sr e
    · obtain ⟨h1, h2, h4, h5⟩ := hpq
      rcases trR_wr ha with rfl | rfl | rfl <;> rcases trR_post hb with e | e
      · exact hp.n3 e.symm
      · exact hp.s3 e.symm
      · exact h1 e.symm
      · exact h5 e.symm
      · exact h4 e.symm
      · exact h2 e.symm
  have hR : RI (wV root (Ts.map (·.1))) l := ⟨⟨ps, h3, htr⟩, fun a ha => by
    rcases inV ha with rfl | rfl | ⟨p, hp, rfl | rfl⟩
    · exact ⟨_, h3, (by intro e; cases e), (by intro e; cases e), (by intro e; cases e)⟩
    · exact ⟨_, hr, pl_ref⟩
    · exact ⟨_, (hT p hp).n, pl_ref⟩
    · exact ⟨_, (hT p hp).s, pl_ref⟩⟩
  have hcall : CompCall w (wV root (Ts.map (·.1))) mp 80 400 (if b then 451 else 425) (slC rid nm rnt) := by
    cases b
    · exact cc425 _ _ _
    · exact cc451 _ _ _
  refine (hcall ms hap (by rw [hlen]; exact h0) (by rw [hlen]; exact hl) root rd rt rk hVr hV3 (fun q hq h => ?_) (fun q hq h => ?_) (fun q hq h => ?_) hrdV hrtV l hR hr hrd (by rw [hmx]; exact hrt) (fun q hq => ?_)).weaken (Nat.le_refl _) (Nat.le_refl _) fun v l' h => ?_
  · obtain ⟨p, hp, rfl⟩ := hmem q hq
    rcases trR_wr h with e | e | e
    · exact hr3 e
    · exact (ok p hp).nr e.symm
    · exact (ok p hp).sr e.symm
  · obtain ⟨p, hp, rfl⟩ := hmem q hq
    rcases trR_post h with e | e
    · exact (ok p hp).nr e.symm
    · exact (ok p hp).sr e.symm
  · obtain ⟨p, hp, rfl⟩ := hmem q hq
    rcases trR_pre h with e | e | e
    · exact (ok p hp).n3 e.symm
    · exact (ok p hp).s3 e.symm
    · exact hr3 e.symm
  · obtain ⟨p, hp, rfl⟩ := hmem q hq
    exact trR_ok (hT p hp) hm ⟨_, hr⟩ hrd
  · obtain ⟨e, ⟨a1, _⟩, ⟨t, k, _, b1, b2, b3⟩, b4⟩ := h
    rw [hmr] at b2
    refine ⟨e, a1, ⟨t, k, b1, b2⟩, fun p hp => trR_dn (b3 _ (List.mem_pmap.mpr ⟨p, hp, rfl⟩)), fun z hz hn => b4 z hz (fun e => hn (e ▸ hVr)) (fun e => hn (e ▸ hV3)) fun q hq h => ?_⟩
    exact hn (q.wrV _ h)
end
section
theorem off_Tr : True := by
  w_top off
  exact True.intro
theorem unr_Tr {a b : Nat} (h : a < b) : a < b := h
local macro_rules | `(tactic| k_room) => `(tactic| ((try simp only [depth_under_make, depth_under_kw, depth_in1, depth_deeper, depth_caller]); (try dsimp only [ktrTop]); (try simp only [recursionLimit]); omega))
local macro_rules | `(tactic| k_units) => `(tactic| ((try simp only [units_in1, units_deeper, Around.mark_units, units_caller]); (try dsimp only [ktrTop]); (try simp only [cLine]); omega))
local macro_rules | `(tactic| k_enter) => `(tactic| (refine' code_def ?k1 ?k2 ?k3 ?k4 ?k5 ?kA ?kF ?kK ?k6 ?k7 ?k8 ?k9 ?kB ?_ ?c2 ?c3 ?c4 ?c5; (case kA => exact rfl); (case kF => exact rfl); (case kK => first | assumption | exact rfl); (case k1 => k_asm); (case k2 => k_asm); (case k3 => k_asm); (case k4 => k_asm); (case k5 => k_asm); (case k6 => k_is); (case k7 => k_is); (case k8 => k_room); (case k9 => first | exact BindsTo.of_eq rfl | exact binds_K (by k_in) rfl (by k_is) rfl rfl rfl | fail "k_enter: no rule for these arguments"); (case c5 => decide); (case kB => exact locs rfl); (case c2 => exact rfl); (case c3 => exact rfl); (case c4 => exact rfl); k_whole; intro g' L' h' FG' F' N' B' X' T'; (try dsimp only); (try k_lift B'); (try k_fold)))
local macro_rules | `(tactic| k_all) => `(tactic| (refine ne_of_below (by assumption) ?_; first | exact Nat.le_refl _ | omega))
local macro_rules | `(tactic| k_mem) => `(tactic| first | exact List.Mem.head _ | (refine List.Mem.tail _ ?_; k_mem) | assumption)
theorem words_of : ∀ ys : List Value, (∀ y ∈ ys, ∃ t tt, y = .str t tt ∧ 1 ≤ t.length ∧ t.length ≤ 3) → ∃ ps : List (Str × Tok), ys = ps.map (fun p => Value.str p.1 p.2) ∧ ∀ p ∈ ps, 1 ≤ p.1.length ∧ p.1.length ≤ 3
  | [], _ => ⟨[], rfl, fun _ h => nomatch h⟩
  | y :: ys, h => by
    obtain ⟨t, tt, rfl, h1⟩ := h y (.head _)
    obtain ⟨ps, e, h2⟩ := words_of ys fun y hy => h y (.tail _ hy)
    refine ⟨(t, tt) :: ps, by rw [List.map_cons, ← e], fun p hp => ?_⟩
    rcases List.mem_cons.mp hp with rfl | hp
    · exact h1
    · exact h2 p hp
theorem words_at {ys : List Value} {ps : List (Str × Tok)} {i : Nat} {v : Value} (e : ys = ps.map fun p => Value.str p.1 p.2) (h : ys.toArray[i]? = some v) : ∃ p, ps[i]? = some p ∧ v = .str p.1 p.2 := by
  subst e
  have h' : (ps.map fun p => Value.str p.1 p.2)[i]? = some v := by simpa using h
  rw [List.getElem?_map] at h'
  cases hp : ps[i]? with
  | none => rw [hp] at h'; cases h'
  | some p => rw [hp] at h'; exact ⟨p, rfl, (Option.some.inj h').symm⟩
def TOrd : Bool → TA → Prop
  | true, T => T.ld < T.lit ∧ T.lit < T.nd ∧ T.nd < T.n ∧ T.n < T.sd ∧ T.sd < T.s
  | false, T => T.ld < T.lit ∧ T.lit < T.sd ∧ T.sd < T.s ∧ T.s < T.nd ∧ T.nd < T.n
/-- the trees made so far -/
def TreeJ (b : Bool) (nm : Str) (ps : List (Str × Tok)) (n0 : Led) (i : Nat) (ys : List Value) (l : Led) : Prop :=
  ∃ Ts : List (TA × Str), ys = Ts.map (fun p => Value.ref (if b then p.1.s else p.1.n)) ∧ Ts.map (·.2) = (ps.take i).map (·.1) ∧ (∀ p ∈ Ts, TrAt b nm p.2 l p.1) ∧ (Ts.Pairwise fun A B => (if b then A.1.s else A.1.n) < B.1.ld) ∧ (∀ p ∈ Ts, TOrd b p.1 ∧ ∀ z ∈ n0, z.1 < p.1.ld) ∧ ∀ z ∈ n0, z ∈ l
theorem TreeJ.start (b : Bool) (nm : Str) (ps : List (Str × Tok)) (n0 : Led) : TreeJ b nm ps n0 0 [] n0 := ⟨[], rfl, by simp, (fun _ h => nomatch h), List.Pairwise.nil, (fun _ h => nomatch h), fun _ h => h⟩
theorem TrAt.keep {b : Bool} {nm wd : Str} {l l' : Led} {T : TA} (h : TrAt b nm wd l T) (k : ∀ z ∈ l, z ∈ l') : TrAt b nm wd l' T :=
  ⟨k _ h.lit, k _ h.ld, k _ h.z, k _ h.zd, k _ h.n, k _ h.nd, k _ h.s, k _ h.sd, k _ h.nt, k _ h.st⟩
section
variable {h₀ : Heap} {L : Addr} {m : Str → Option Value} {s : Shared} {I C D : Addr} {oI oC oD : Obj} {l n1 n2 n3 n4 : Led} {ps : List (Str × Tok)} {n0 : Led} {i : Nat} {ys : List Value} {wd : Str} {tk : Tok} {nm : Str} {h' : Heap} {tk' : Nat}
theorem tree_end {b : Bool} {T : TA} (hJ : TreeJ b nm ps n0 i ys l) (hp : ps[i]? = some (wd, tk)) (off : LCg.Off3 I C D l) (sub : ∀ z ∈ (I, oI) :: (C, oC) :: (D, oD) :: l, z ∈ n4) (hT : TrAt b nm wd n4 T) (ho : TOrd b T)
    (fr : ∀ a ∈ [T.lit, T.ld, T.z, T.zd, T.n, T.nd, T.s, T.sd, T.nt, T.st], ∀ z ∈ (I, oI) :: (C, oC) :: (D, oD) :: l, z.1 < a) : TreeJ b nm ps n0 (i + 1) (ys ++ [.ref (if b then T.s else T.n)]) (f3 I C D n4) := by
  obtain ⟨Ts, e1, e2, hTs, hP, hO, hk⟩ := hJ
  have om := off.mem
  have keep : ∀ z ∈ l, z ∈ f3 I C D n4 := fun z hz => mem_f3.mpr ⟨sub z (.tail _ (.tail _ (.tail _ hz))), om z hz⟩
  have new : ∀ a ∈ [T.lit, T.ld, T.z, T.zd, T.n, T.nd, T.s, T.sd, T.nt, T.st], ∀ o, (a, o) ∈ n4 → (a, o) ∈ f3 I C D n4 := fun a ha o ho => mem_f3.mpr ⟨ho, fun e => Nat.lt_irrefl _ (e ▸ fr a ha (I, oI) (.head _)), fun e => Nat.lt_irrefl _ (e ▸ fr a ha (C, oC) (.tail _ (.head _))), fun e => Nat.lt_irrefl _ (e ▸ fr a ha (D, oD) (.tail _ (.tail _ (.head _))))⟩
  refine ⟨Ts ++ [(T, wd)], by rw [List.map_append, e1]; rfl, ?_, fun p hp' => ?_, ?_, fun p hp' => ?_, fun z hz => keep z (hk z hz)⟩
  · rw [List.map_append, e2, List.take_add_one, hp, List.map_append]; rfl
  · rcases List.mem_append.mp hp' with hp' | hp'
    · exact (hTs p hp').keep keep
    · rw [List.mem_singleton.mp hp']
      exact ⟨new _ (by simp) _ hT.lit, new _ (by simp) _ hT.ld, new _ (by simp) _ hT.z, new _ (by simp) _ hT.zd, new _ (by simp) _ hT.n, new _ (by simp) _ hT.nd, new _ (by simp) _ hT.s, new _ (by simp) _ hT.sd, new _ (by simp) _ hT.nt, new _ (by simp) _ hT.st⟩
  · rw [List.pairwise_append]
    refine ⟨hP, List.pairwise_singleton _ _, fun A hA B hB => ?_⟩
    rw [List.mem_singleton.mp hB]
    have u := fun (a : Addr) (o : Obj) (h : (a, o) ∈ l) => show (a, o) ∈ (I, oI) :: (C, oC) :: (D, oD) :: l from .tail _ (.tail _ (.tail _ h))
    cases b
    · exact fr T.ld (by simp) _ (u _ _ (hTs A hA).n)
    · exact fr T.ld (by simp) _ (u _ _ (hTs A hA).s)
  · rcases List.mem_append.mp hp' with hp' | hp'
    · exact hO p hp'
    · rw [List.mem_singleton.mp hp']
      exact ⟨ho, fun z hz => fr T.ld (by simp) _ (.tail _ (.tail _ (.tail _ (hk z hz))))⟩
theorem tree_post {b : Bool} {T : TA} {D0 : Addr} {its : List Value} (hJ : TreeJ b nm ps n0 i ys l) (hD0 : (D0, LCg.lst its) ∈ n0) (hp : ps[i]? = some (wd, tk)) (off : LCg.Off3 I C D l) (sub : ∀ z ∈ (I, oI) :: (C, oC) :: (D, LCg.lst ys) :: l, z ∈ n4) (hT : TrAt b nm wd n4 T) (ho : TOrd b T)
    (fr : ∀ a ∈ [T.lit, T.ld, T.z, T.zd, T.n, T.nd, T.s, T.sd, T.nt, T.st], ∀ z ∈ (I, oI) :: (C, oC) :: (D, LCg.lst ys) :: l, z.1 < a) (F : Fr h₀ L h' m) (N' : News h₀ L h' n4) :
    CPost h₀ L m s I oI C oC D (LCg.lst ys) (fun y l => LCg.SrcAt h₀ D0 its.toArray l ∧ TreeJ b nm ps n0 (i + 1) (ys ++ [y]) l) (.ref (if b then T.s else T.n)) { s with heap := h', toks := tk' } := by
  have hR := tree_end hJ hp off sub hT ho fr
  have hm : (D0, LCg.lst its) ∈ f3 I C D n4 := let ⟨_, _, _, _, _, _, hk⟩ := hR; hk _ hD0
  exact ⟨h', tk', n4, rfl, F, N', sub _ (.head _), sub _ (.tail _ (.head _)), sub _ (.tail _ (.tail _ (.head _))), .inr ⟨LCg.lst its, hm, rfl, its.length, rfl⟩, hR⟩
theorem tree_w {D0 : Addr} {its : List Value} {xl dl az dz y dn tt sq ds st' : Addr} {il inn iss : Value} {tl kz tn ts : Tok} {kk ks' : Nat} (hJ : TreeJ true (Str.ofString "w") ps n0 i ys l) (hD0 : (D0, LCg.lst its) ∈ n0) (hp : ps[i]? = some (wd, tk)) (off : LCg.Off3 I C D l)
    (hMl : Made ((I, oI) :: (C, oC) :: (D, LCg.lst ys) :: l) n1 xl dl ⟨.ref 367, some dl, .plain, #[some (.str wd tk), some il, some (.str eS tl)]⟩)
    (hMz : (az, lzObj dz (Str.ofString "w") kz) ∈ n2 ∧ (dz, dictOf [] 0) ∈ n2 ∧ (∀ z ∈ n1, z ∈ n2) ∧ (∀ z ∈ n1, z.1 < dz) ∧ dz < az)
    (hMn : Made n2 n3 y dn ⟨.ref 489, some dn, .plain, #[some (.bool true), some (.ref tt), some inn, some (.str eS tn)]⟩) (htt : (tt, tupO [.ref az] kk) ∈ n3) (hft : ∀ z ∈ n2, z.1 < tt)
    (hMs : Made n3 n4 sq ds ⟨.ref 425, some ds, .plain, #[some (.ref st'), some iss, some (.str eS ts)]⟩) (hst : (st', tupO [.ref xl, .ref y] ks') ∈ n4) (hfs : ∀ z ∈ n3, z.1 < st') (F : Fr h₀ L h' m) (N' : News h₀ L h' n4) :
    CPost h₀ L m s I oI C oC D (LCg.lst ys) (fun y l => LCg.SrcAt h₀ D0 its.toArray l ∧ TreeJ true (Str.ofString "w") ps n0 (i + 1) (ys ++ [y]) l) (.ref sq) { s with heap := h', toks := tk' } := by
  obtain ⟨a1, a2, a3, a4, a5⟩ := hMl
  obtain ⟨b1, b2, b3, b4, b5⟩ := hMz
  obtain ⟨c1, c2, c3, c4, c5⟩ := hMn
  obtain ⟨d1, d2, d3, d4, d5⟩ := hMs
  refine tree_post (b := true) (T := ⟨dl, xl, dz, az, dn, y, ds, sq, tt, st', il, inn, iss, tk, tl, kz, tn, ts, kk, ks'⟩) hJ hD0 hp off (fun z hz => d3 _ (c3 _ (b3 _ (a3 _ hz)))) ⟨d3 _ (c3 _ (b3 _ a1)), d3 _ (c3 _ (b3 _ a2)), d3 _ (c3 _ b1), d3 _ (c3 _ b2), d3 _ c1, d3 _ c2, d1, d2, d3 _ htt, hst⟩ ⟨a5, c4 _ (b3 _ a1), c5, d4 _ c1, d5⟩ (fun a ha z hz => ?_) F N'
  have e1 := a4 z hz
  have e2 := b4 z (a3 z hz)
  have e3 := c4 z (b3 z (a3 z hz))
  have e4 := d4 z (c3 z (b3 z (a3 z hz)))
  have e5 := hft z (b3 z (a3 z hz))
  have e6 := hfs z (c3 z (b3 z (a3 z hz)))
  simp only [List.mem_cons, List.not_mem_nil, or_false] at ha
  rcases ha with rfl | rfl | rfl | rfl | rfl | rfl | rfl | rfl | rfl | rfl
  · exact Nat.lt_trans e1 a5
  · exact e1
  · exact Nat.lt_trans e2 b5
  · exact e2
  · exact Nat.lt_trans e3 c5
  · exact e3
  · exact Nat.lt_trans e4 d5
  · exact e4
  · exact e5
  · exact e6
theorem tree_l {D0 : Addr} {its : List Value} {xl dl az dz y dn tt sq ds st' : Addr} {il inn iss : Value} {tl kz tn ts : Tok} {kk ks' : Nat} (hJ : TreeJ false (Str.ofString "l") ps n0 i ys l) (hD0 : (D0, LCg.lst its) ∈ n0) (hp : ps[i]? = some (wd, tk)) (off : LCg.Off3 I C D l)
    (hMl : Made ((I, oI) :: (C, oC) :: (D, LCg.lst ys) :: l) n1 xl dl ⟨.ref 367, some dl, .plain, #[some (.str wd tk), some il, some (.str eS tl)]⟩)
    (hMz : (az, lzObj dz (Str.ofString "l") kz) ∈ n2 ∧ (dz, dictOf [] 0) ∈ n2 ∧ (∀ z ∈ n1, z ∈ n2) ∧ (∀ z ∈ n1, z.1 < dz) ∧ dz < az)
    (hMs : Made n2 n3 sq ds ⟨.ref 425, some ds, .plain, #[some (.ref st'), some iss, some (.str eS ts)]⟩) (hst : (st', tupO [.ref xl, .ref az] ks') ∈ n3) (hfs : ∀ z ∈ n2, z.1 < st')
    (hMn : Made n3 n4 y dn ⟨.ref 489, some dn, .plain, #[some (.bool true), some (.ref tt), some inn, some (.str eS tn)]⟩) (htt : (tt, tupO [.ref sq] kk) ∈ n4) (hft : ∀ z ∈ n3, z.1 < tt) (F : Fr h₀ L h' m) (N' : News h₀ L h' n4) :
    CPost h₀ L m s I oI C oC D (LCg.lst ys) (fun y l => LCg.SrcAt h₀ D0 its.toArray l ∧ TreeJ false (Str.ofString "l") ps n0 (i + 1) (ys ++ [y]) l) (.ref y) { s with heap := h', toks := tk' } := by
  obtain ⟨a1, a2, a3, a4, a5⟩ := hMl
  obtain ⟨b1, b2, b3, b4, b5⟩ := hMz
  obtain ⟨c1, c2, c3, c4, c5⟩ := hMs
  obtain ⟨d1, d2, d3, d4, d5⟩ := hMn
  refine tree_post (b := false) (T := ⟨dl, xl, dz, az, dn, y, ds, sq, tt, st', il, inn, iss, tk, tl, kz, tn, ts, kk, ks'⟩) hJ hD0 hp off (fun z hz => d3 _ (c3 _ (b3 _ (a3 _ hz)))) ⟨d3 _ (c3 _ (b3 _ a1)), d3 _ (c3 _ (b3 _ a2)), d3 _ (c3 _ b1), d3 _ (c3 _ b2), d1, d2, d3 _ c1, d3 _ c2, htt, d3 _ hst⟩ ⟨a5, c4 _ (b3 _ a1), c5, d4 _ c1, d5⟩ (fun a ha z hz => ?_) F N'
  have e1 := a4 z hz
  have e2 := b4 z (a3 z hz)
  have e3 := c4 z (b3 z (a3 z hz))
  have e4 := d4 z (c3 z (b3 z (a3 z hz)))
  have e5 := hfs z (b3 z (a3 z hz))
  have e6 := hft z (c3 z (b3 z (a3 z hz)))
  simp only [List.mem_cons, List.not_mem_nil, or_false] at ha
  rcases ha with rfl | rfl | rfl | rfl | rfl | rfl | rfl | rfl | rfl | rfl
  · exact Nat.lt_trans e1 a5
  · exact e1
  · exact Nat.lt_trans e2 b5
  · exact e2
  · exact Nat.lt_trans e4 d5
  · exact e4
  · exact Nat.lt_trans e3 c5
  · exact e3
  · exact e6
  · exact e5
end
end
section
theorem off_Tq : True := by
  w_top off
  exact True.intro
theorem unr_Tq {a b : Nat} (h : a < b) : a < b := h
local macro_rules | `(tactic| k_room) => `(tactic| ((try simp only [depth_under_make, depth_under_kw, depth_in1, depth_deeper, depth_caller]); (try dsimp only [ktrTop]); (try simp only [recursionLimit]); omega))
local macro_rules | `(tactic| k_units) => `(tactic| ((try simp only [units_in1, units_deeper, Around.mark_units, units_caller]); (try dsimp only [ktrTop]); (try simp only [cLine]); omega))
local macro_rules | `(tactic| k_enter) => `(tactic| (refine' code_def ?k1 ?k2 ?k3 ?k4 ?k5 ?kA ?kF ?kK ?k6 ?k7 ?k8 ?k9 ?kB ?_ ?c2 ?c3 ?c4 ?c5; (case kA => exact rfl); (case kF => exact rfl); (case kK => first | assumption | exact rfl); (case k1 => k_asm); (case k2 => k_asm); (case k3 => k_asm); (case k4 => k_asm); (case k5 => k_asm); (case k6 => k_is); (case k7 => k_is); (case k8 => k_room); (case k9 => first | exact BindsTo.of_eq rfl | exact binds_K (by k_in) rfl (by k_is) rfl rfl rfl | fail "k_enter: no rule for these arguments"); (case c5 => decide); (case kB => exact locs rfl); (case c2 => exact rfl); (case c3 => exact rfl); (case c4 => exact rfl); k_whole; intro g' L' h' FG' F' N' B' X' T'; (try dsimp only); (try k_lift B'); (try k_fold)))
local macro_rules | `(tactic| k_all) => `(tactic| (refine ne_of_below (by assumption) ?_; first | exact Nat.le_refl _ | omega))
local macro_rules | `(tactic| k_mem) => `(tactic| first | exact List.Mem.head _ | (refine List.Mem.tail _ ?_; k_mem) | assumption)
theorem TrAt.ne {b : Bool} {Ts : List (TA × Str)} {n0 : Led} (hP : Ts.Pairwise fun A B => (if b then A.1.s else A.1.n) < B.1.ld) (hO : ∀ p ∈ Ts, TOrd b p.1 ∧ ∀ z ∈ n0, z.1 < p.1.ld) : Ts.Pairwise fun A B => A.1.n ≠ B.1.n ∧ A.1.s ≠ B.1.s := by
  refine hP.imp_of_mem fun {A B} hA hB h => ?_
  have a := (hO A hA).1
  have c := (hO B hB).1
  cases b
  · obtain ⟨a1, a2, a3, a4, a5⟩ := a
    obtain ⟨b1, b2, b3, b4, b5⟩ := c
    have hs : B.1.ld < B.1.s := Nat.lt_trans (Nat.lt_trans b1 b2) b3
    exact ⟨Nat.ne_of_lt (Nat.lt_trans h (Nat.lt_trans hs (Nat.lt_trans b4 b5))), Nat.ne_of_lt (Nat.lt_trans (Nat.lt_trans (Nat.lt_trans a4 a5) h) hs)⟩
  · obtain ⟨a1, a2, a3, a4, a5⟩ := a
    obtain ⟨b1, b2, b3, b4, b5⟩ := c
    have hs : B.1.ld < B.1.n := Nat.lt_trans (Nat.lt_trans b1 b2) b3
    exact ⟨Nat.ne_of_lt (Nat.lt_trans (Nat.lt_trans (Nat.lt_trans a4 a5) h) hs), Nat.ne_of_lt (Nat.lt_trans h (Nat.lt_trans hs (Nat.lt_trans b4 b5)))⟩
theorem TOrd.ns {b : Bool} {T : TA} (h : TOrd b T) : T.ld < T.n ∧ T.ld < T.s := by
  cases b
  · obtain ⟨b1, b2, b3, b4, b5⟩ := h
    have hs : T.ld < T.s := Nat.lt_trans (Nat.lt_trans b1 b2) b3
    exact ⟨Nat.lt_trans hs (Nat.lt_trans b4 b5), hs⟩
  · obtain ⟨b1, b2, b3, b4, b5⟩ := h
    have hs : T.ld < T.n := Nat.lt_trans (Nat.lt_trans b1 b2) b3
    exact ⟨hs, Nat.lt_trans hs (Nat.lt_trans b4 b5)⟩
def Out4 (o : Obj) : Prop := o.cls ≠ .none ∧ o.cls ≠ .ref 451 ∧ o.cls ≠ .ref 425 ∧ o.cls ≠ .ref 489
section
variable {b : Bool} {nm : Str} {root rd : Addr} {Ts : List (TA × Str)} {l l' n0 : Led}
theorem in_wV {a : Addr} (ha : a ∈ wV root (Ts.map (·.1))) : a = 389 ∨ a = root ∨ ∃ p ∈ Ts, a = p.1.n ∨ a = p.1.s := by
  unfold wV at ha
  simpa [List.mem_flatMap] using ha
theorem keepc {ps : Array Value} {o : Obj} (hfun : ∀ a o o', (a, o) ∈ l → (a, o') ∈ l → o = o') (h3 : (389, tabObj ps) ∈ l) (hr : (root, o) ∈ l) (ho : o.cls = .ref 451 ∨ o.cls = .ref 425) (hT : ∀ p ∈ Ts, TrAt b nm p.2 l p.1) (keep : ∀ z ∈ l, z.1 ∉ wV root (Ts.map (·.1)) → z ∈ l') :
    ∀ z ∈ l, Out4 z.2 → z ∈ l' := fun z hz hc => keep z hz fun ha => by
  obtain ⟨a, oz⟩ := z
  obtain ⟨c1, c2, c3, c4⟩ := hc
  rcases in_wV ha with rfl | rfl | ⟨p, hp, rfl | rfl⟩
  · rw [hfun _ _ _ hz h3] at c1
    exact c1 rfl
  · rw [hfun _ _ _ hz hr] at c2 c3
    exact ho.elim c2 c3
  · rw [hfun _ _ _ hz (hT p hp).n] at c4
    exact c4 rfl
  · rw [hfun _ _ _ hz (hT p hp).s] at c3
    exact c3 rfl
theorem keepo (keep : ∀ z ∈ l, z.1 ∉ wV root (Ts.map (·.1)) → z ∈ l') : ∀ z ∈ l, z.1 ≠ 389 → z.1 ≠ root → (∀ p ∈ Ts, z.1 ≠ p.1.n ∧ z.1 ≠ p.1.s) → z ∈ l' := fun z hz h3 hr hT => keep z hz fun ha => by
  rcases in_wV ha with e | e | ⟨p, hp, e | e⟩
  · exact h3 e
  · exact hr e
  · exact (hT p hp).1 e
  · exact (hT p hp).2 e
theorem TrAt.over {b : Bool} {nm wd : Str} {T : TA} (h : TrAt b nm wd l T) (kc : ∀ z ∈ l, Out4 z.2 → z ∈ l') (kn : ∀ o, (T.n, o) ∈ l → (T.n, o) ∈ l') (ks : ∀ o, (T.s, o) ∈ l → (T.s, o) ∈ l') : TrAt b nm wd l' T :=
  have d : ∀ {es n}, Out4 (dictOf es n) := fun {_ _} => ⟨(by intro e; cases e), (by intro e; cases e), (by intro e; cases e), (by intro e; cases e)⟩
  have t : ∀ {es n}, Out4 (tupO es n) := fun {_ _} => ⟨(by intro e; cases e), (by intro e; cases e), (by intro e; cases e), (by intro e; cases e)⟩
  ⟨kc _ h.lit ⟨(by intro e; cases e), (by intro e; cases e), (by intro e; cases e), (by intro e; cases e)⟩, kc _ h.ld d, kc _ h.z ⟨(by intro e; cases e), (by intro e; cases e), (by intro e; cases e), (by intro e; cases e)⟩, kc _ h.zd d, kn _ h.n, kc _ h.nd d, ks _ h.s, kc _ h.sd d, kc _ h.nt t, kc _ h.st t⟩
/-- a root and its trees, resolved -/
structure RtDn (b : Bool) (nm : Str) (root rd : Addr) (Ts : List (TA × Str)) (l : Led) : Prop where
  rt : ∃ t k rid rnt, (root, (⟨.ref (if b then 451 else 425), some rd, .plain, slC rid nm rnt t⟩ : Obj)) ∈ l ∧ (t, tupO (Ts.map fun p => .ref (if b then p.1.s else p.1.n)) k) ∈ l
  rd : (rd, dictOf [] 0) ∈ l
  tr : ∀ p ∈ Ts, TrDn b root l p.1
  lit : ∀ p ∈ Ts, (p.1.lit, p.1.litO p.2) ∈ l
  ds : ∀ p ∈ Ts, (p.1.ld, dictOf [] 0) ∈ l ∧ (p.1.nd, dictOf [] 0) ∈ l ∧ (p.1.sd, dictOf [] 0) ∈ l
theorem RtDn.keep (h : RtDn b nm root rd Ts l) (kc : ∀ z ∈ l, Out4 z.2 → z ∈ l') (kr : ∀ o, (root, o) ∈ l → (root, o) ∈ l') (kt : ∀ p ∈ Ts, ∀ o, ((p.1.n, o) ∈ l → (p.1.n, o) ∈ l') ∧ ((p.1.s, o) ∈ l → (p.1.s, o) ∈ l')) : RtDn b nm root rd Ts l' := by
  have d : ∀ {es n}, Out4 (dictOf es n) := fun {_ _} => ⟨(by intro e; cases e), (by intro e; cases e), (by intro e; cases e), (by intro e; cases e)⟩
  have t : ∀ {es n}, Out4 (tupO es n) := fun {_ _} => ⟨(by intro e; cases e), (by intro e; cases e), (by intro e; cases e), (by intro e; cases e)⟩
  refine ⟨?_, kc _ h.rd d, fun p hp => ⟨?_, ?_⟩, fun p hp => kc _ (h.lit p hp) ⟨(by intro e; cases e), (by intro e; cases e), (by intro e; cases e), (by intro e; cases e)⟩, fun p hp => ?_⟩
  · obtain ⟨a, k, r1, r2, h1, h2⟩ := h.rt
    exact ⟨a, k, r1, r2, kr _ h1, kc _ h2 t⟩
  · obtain ⟨a, k, h1, h2⟩ := (h.tr p hp).n
    exact ⟨a, k, (kt p hp _).1 h1, kc _ h2 t⟩
  · obtain ⟨a, k, h1, h2⟩ := (h.tr p hp).s
    exact ⟨a, k, (kt p hp _).2 h1, kc _ h2 t⟩
  · obtain ⟨h1, h2, h3⟩ := h.ds p hp
    exact ⟨kc _ h1 d, kc _ h2 d, kc _ h3 d⟩
theorem RtDn.mono (h : RtDn b nm root rd Ts l) (k : ∀ z ∈ l, z ∈ l') : RtDn b nm root rd Ts l' := h.keep (fun z hz _ => k z hz) (fun _ => k _) fun _ _ _ => ⟨k _, k _⟩
theorem RtDn.make {rid : Value} {rnt : Tok} (hT : ∀ p ∈ Ts, TrAt b nm p.2 l p.1) (hrd : (rd, dictOf [] 0) ∈ l) (kc : ∀ z ∈ l, Out4 z.2 → z ∈ l')
    (hr : ∃ t k, (root, (⟨.ref (if b then 451 else 425), some rd, .plain, slC rid nm rnt t⟩ : Obj)) ∈ l' ∧ (t, tupO (Ts.map fun p => .ref (if b then p.1.s else p.1.n)) k) ∈ l') (ht : ∀ p ∈ Ts, TrDn b root l' p.1) : RtDn b nm root rd Ts l' := by
  have d : ∀ {es n}, Out4 (dictOf es n) := fun {_ _} => ⟨(by intro e; cases e), (by intro e; cases e), (by intro e; cases e), (by intro e; cases e)⟩
  obtain ⟨a, k, h1, h2⟩ := hr
  exact ⟨⟨a, k, _, _, h1, h2⟩, kc _ hrd d, ht, fun p hp => kc _ (hT p hp).lit ⟨(by intro e; cases e), (by intro e; cases e), (by intro e; cases e), (by intro e; cases e)⟩, fun p hp => ⟨kc _ (hT p hp).ld d, kc _ (hT p hp).nd d, kc _ (hT p hp).sd d⟩⟩
end
/-- between the two: the second's trees stand, the first is done -/
theorem mid_rsv {nmw nml : Str} {xw dw tw xl dl tl : Addr} {idw idl : Value} {tnw tnl : Tok} {kl : Nat} {Ts Tl : List (TA × Str)} {n0 l l' : Led} {ps : Array Value} (hfun : ∀ a o o', (a, o) ∈ l → (a, o') ∈ l → o = o') (h3 : (389, tabObj ps) ∈ l) (h30 : (389, tabObj ps) ∈ n0)
    (hw : (xw, (⟨.ref 451, some dw, .plain, slC idw nmw tnw tw⟩ : Obj)) ∈ l) (hw0 : (xw, (⟨.ref 451, some dw, .plain, slC idw nmw tnw tw⟩ : Obj)) ∈ n0) (hdw : (dw, dictOf [] 0) ∈ l) (hT : ∀ p ∈ Ts, TrAt true nmw p.2 l p.1) (hT0 : ∀ p ∈ Ts, TrAt true nmw p.2 n0 p.1)
    (hL : ∀ p ∈ Tl, TrAt false nml p.2 l p.1) (hO : ∀ p ∈ Tl, TOrd false p.1 ∧ ∀ z ∈ n0, z.1 < p.1.ld) (hl : (xl, (⟨.ref 425, some dl, .plain, slC idl nml tnl tl⟩ : Obj)) ∈ l) (hl0 : ∀ z ∈ n0, z.1 < xl) (hdl : (dl, dictOf [] 0) ∈ l) {vs : List Value} (htl : (tl, tupO vs kl) ∈ l)
    (h1 : ∃ t k, (xw, (⟨.ref 451, some dw, .plain, slC idw nmw tnw t⟩ : Obj)) ∈ l' ∧ (t, tupO (Ts.map fun p => .ref p.1.s) k) ∈ l') (h2 : ∀ p ∈ Ts, TrDn true xw l' p.1) (keep : ∀ z ∈ l, z.1 ∉ wV xw (Ts.map (·.1)) → z ∈ l') :
    RtDn true nmw xw dw Ts l' ∧ (∀ p ∈ Tl, TrAt false nml p.2 l' p.1) ∧ (xl, (⟨.ref 425, some dl, .plain, slC idl nml tnl tl⟩ : Obj)) ∈ l' ∧ (dl, dictOf [] 0) ∈ l' ∧ (tl, tupO vs kl) ∈ l' := by
  have d : ∀ {es n}, Out4 (dictOf es n) := fun {_ _} => ⟨(by intro e; cases e), (by intro e; cases e), (by intro e; cases e), (by intro e; cases e)⟩
  have t : ∀ {es n}, Out4 (tupO es n) := fun {_ _} => ⟨(by intro e; cases e), (by intro e; cases e), (by intro e; cases e), (by intro e; cases e)⟩
  have kc := keepc hfun h3 hw (.inl rfl) hT keep
  have kf : ∀ a o, (a, o) ∈ l → (∀ z ∈ n0, z.1 < a) → (a, o) ∈ l' := fun a o ho hf => keepo keep _ ho (Nat.ne_of_gt (hf _ h30)) (Nat.ne_of_gt (hf _ hw0)) fun p hp => ⟨Nat.ne_of_gt (hf _ (hT0 p hp).n), Nat.ne_of_gt (hf _ (hT0 p hp).s)⟩
  refine ⟨RtDn.make hT hdw kc h1 h2, fun p hp => (hL p hp).over kc (fun o ho => kf _ _ ho fun z hz => ?_) fun o ho => kf _ _ ho fun z hz => ?_, kf _ _ hl hl0, kc _ hdl d, kc _ htl t⟩
  · exact Nat.lt_trans ((hO p hp).2 z hz) (hO p hp).1.ns.1
  · exact Nat.lt_trans ((hO p hp).2 z hz) (hO p hp).1.ns.2
theorem end_rsv {nmw nml : Str} {xw dw xl dl tl : Addr} {idl : Value} {tnl : Tok} {Ts Tl : List (TA × Str)} {n0 l l' : Led} {ps : Array Value} {ow : Obj} (hfun : ∀ a o o', (a, o) ∈ l → (a, o') ∈ l → o = o') (h3 : (389, tabObj ps) ∈ l) (hW : RtDn true nmw xw dw Ts l) (hw0 : (xw, ow) ∈ n0) (hT0 : ∀ p ∈ Ts, TrAt true nmw p.2 n0 p.1)
    (hL : ∀ p ∈ Tl, TrAt false nml p.2 l p.1) (hO : ∀ p ∈ Tl, TOrd false p.1 ∧ ∀ z ∈ n0, z.1 < p.1.ld) (hl : (xl, (⟨.ref 425, some dl, .plain, slC idl nml tnl tl⟩ : Obj)) ∈ l) (hl0 : ∀ z ∈ n0, z.1 < xl) (hdl : (dl, dictOf [] 0) ∈ l)
    (h1 : ∃ t k, (xl, (⟨.ref 425, some dl, .plain, slC idl nml tnl t⟩ : Obj)) ∈ l' ∧ (t, tupO (Tl.map fun p => .ref p.1.n) k) ∈ l') (h2 : ∀ p ∈ Tl, TrDn false xl l' p.1) (keep : ∀ z ∈ l, z.1 ∉ wV xl (Tl.map (·.1)) → z ∈ l') :
    RtDn true nmw xw dw Ts l' ∧ RtDn false nml xl dl Tl l' := by
  have kc := keepc hfun h3 hl (.inr rfl) hL keep
  have kf : ∀ a o o0, (a, o) ∈ l → (a, o0) ∈ n0 → o.cls ≠ .none → (a, o) ∈ l' := fun a o o0 ho hf hc => keepo keep _ ho (fun e => by
      have e' : a = 389 := e
      subst e'
      rw [hfun _ _ _ ho h3] at hc
      exact hc rfl) (Nat.ne_of_lt (hl0 (a, o0) hf)) fun p hp => ⟨Nat.ne_of_lt (Nat.lt_trans ((hO p hp).2 (a, o0) hf) (hO p hp).1.ns.1), Nat.ne_of_lt (Nat.lt_trans ((hO p hp).2 (a, o0) hf) (hO p hp).1.ns.2)⟩
  refine ⟨hW.keep kc (fun o ho => ?_) fun p hp o => ⟨fun ho => ?_, fun ho => ?_⟩, RtDn.make hL hdl kc h1 h2⟩
  · obtain ⟨_, _, _, _, hr, _⟩ := hW.rt
    exact kf _ _ _ ho hw0 (by rw [hfun _ _ _ ho hr]; intro e; cases e)
  · obtain ⟨_, _, hr, _⟩ := (hW.tr p hp).n
    exact kf _ _ _ ho (hT0 p hp).n (by rw [hfun _ _ _ ho hr]; intro e; cases e)
  · obtain ⟨_, _, hr, _⟩ := (hW.tr p hp).s
    exact kf _ _ _ ho (hT0 p hp).s (by rw [hfun _ _ _ ho hr]; intro e; cases e)
end
section
theorem off_Lo : True := by
  w_top off
  exact True.intro
theorem unr_Lo {a b : Nat} (h : a < b) : a < b := h
local macro_rules | `(tactic| k_room) => `(tactic| ((try simp only [depth_under_make, depth_under_kw, depth_in1, depth_deeper, depth_caller]); (try dsimp only [ktrTop]); (try simp only [recursionLimit]); omega))
local macro_rules | `(tactic| k_units) => `(tactic| ((try simp only [units_in1, units_deeper, Around.mark_units, units_caller]); (try dsimp only [ktrTop]); (try simp only [cLine]); omega))
local macro_rules | `(tactic| k_enter) => `(tactic| (refine' code_def ?k1 ?k2 ?k3 ?k4 ?k5 ?kA ?kF ?kK ?k6 ?k7 ?k8 ?k9 ?kB ?_ ?c2 ?c3 ?c4 ?c5; (case kA => exact rfl); (case kF => exact rfl); (case kK => first | assumption | exact rfl); (case k1 => k_asm); (case k2 => k_asm); (case k3 => k_asm); (case k4 => k_asm); (case k5 => k_asm); (case k6 => k_is); (case k7 => k_is); (case k8 => k_room); (case k9 => first | exact BindsTo.of_eq rfl | exact binds_K (by k_in) rfl (by k_is) rfl rfl rfl | fail "k_enter: no rule for these arguments"); (case c5 => decide); (case kB => exact locs rfl); (case c2 => exact rfl); (case c3 => exact rfl); (case c4 => exact rfl); k_whole; intro g' L' h' FG' F' N' B' X' T'; (try dsimp only); (try k_lift B'); (try k_fold)))
local macro_rules | `(tactic| k_all) => `(tactic| (refine ne_of_below (by assumption) ?_; first | exact Nat.le_refl _ | omega))
local macro_rules | `(tactic| k_mem) => `(tactic| first | exact List.Mem.head _ | (refine List.Mem.tail _ ?_; k_mem) | assumption)
section
variable {prog : Program} {w : World} {A : Around} {E : Value → Shared → Prop} {s : Shared} {env : Env} {h₀ : Heap} {x : Str} {body : List Stmt} {Q : Flow → Shared → Prop} {m : Str → Option Value} {news : Led}
/-- what a turn of a loop leaves; Ch: what may change -/
def TurnC (h₀ : Heap) (L : Addr) (Ch : Addr → Prop) (J : (Str → Option Value) → Led → Prop) (n₁ : Led) (s₁ : Shared) (Q : Flow → Shared → Prop) (f : Flow) (s₂ : Shared) : Prop := match f with
  | .ret v => Q (.ret v) s₂
  | .brk => Q .next s₂
  | _ => ∃ h' tk m' n', s₂ = { s₁ with heap := h', toks := tk } ∧ Fr h₀ L h' m' ∧ News h₀ L h' n' ∧ (∀ z ∈ n₁, ¬ Ch z.1 → z ∈ n') ∧ J m' n'
theorem turnC_next {L : Addr} {Ch : Addr → Prop} {J : (Str → Option Value) → Led → Prop} {n₁ n' : Led} {s₁ : Shared} {h' : Heap} {tk : Nat} {m' : Str → Option Value} (F : Fr h₀ L h' m') (N : News h₀ L h' n') (K : ∀ z ∈ n₁, ¬ Ch z.1 → z ∈ n') (hJ : J m' n') :
    TurnC h₀ L Ch J n₁ s₁ Q .next { s₁ with heap := h', toks := tk } := ⟨h', tk, m', n', rfl, F, N, K, hJ⟩
theorem at_loopC {I : Addr} {fp : List Addr} {n : Nat} {P : Nat → Value → Prop} {St : Nat → Heap → Prop} (W : Walks prog w A I fp [I] n P St) (hL : env.locals ∉ fp) (hI0 : h₀.get? I = none) (hIf : I ∈ fp) (lt : ∀ z ∈ news, z.1 < I) (hst : St 0 s.heap)
    (F : Fr h₀ env.locals s.heap m) (N : News h₀ env.locals s.heap news) (Ch : Addr → Prop) (hCh : ∀ a, Ch a → ∃ o, (a, o) ∈ news) (hfp : ∀ b ∈ fp, b = I ∨ ¬ Ch b) (hSt : ∀ i h, St i h → ∃ o, h.get? I = some o ∧ ¬ Asked o)
    (J : Nat → (Str → Option Value) → Led → Prop)
    (mono : ∀ i m n n', J i m n → (∀ z ∈ n, (Asked z.2 ∨ z.1 ≠ I) → z ∈ n') → J i m n')
    (h0 : J 0 m news)
    (turn : ∀ i v m₁ n₁ h tk, i < n → P i v → J i m₁ n₁ → Fr h₀ env.locals h (fun y => if y = x then some v else m₁ y) → News h₀ env.locals h n₁ →
      wpAny (model prog w) A (execs body env) (TurnC h₀ env.locals Ch (J (i + 1)) n₁ { s with heap := h, toks := tk } Q) E { s with heap := h, toks := tk })
    (done : ∀ m₁ n₁ h tk, J n m₁ n₁ → Fr h₀ env.locals h m₁ → News h₀ env.locals h n₁ → Q .next { s with heap := h, toks := tk }) :
    LoopAtV prog w A h₀ env x body Q E (.ref I) s := by
  have nCI : ¬ Ch I := fun h => let ⟨o, ho⟩ := hCh I h; Nat.lt_irrefl _ (lt _ ho)
  refine ⟨I, fp, [I], n, P, St, m, news, J, rfl, W, hL, ?_, ?_, hst, F, N, h0, ?_, ?_⟩
  · intro b hb
    rw [List.mem_singleton.mp hb]
    exact hI0
  · intro p hp hI
    exact Nat.lt_irrefl _ ((List.mem_singleton.mp hI) ▸ lt p hp)
  · rintro i v m₁ news₁ s₁ own ⟨hh', tk', rfl⟩ hin hP hJ hoff hown hownh hin' hSt' F₁ N₁
    have hJ' : J i m₁ (own ++ news₁) := mono _ _ _ _ hJ fun z hz _ => List.mem_append_right _ hz
    refine wpAny_mono (turn i v m₁ (own ++ news₁) hh' tk' hin hP hJ' F₁ N₁) (fun f s₂ p => ?_) fun _ _ e => e
    have fin : (∃ h' tk m' n', s₂ = { ({ s with heap := hh', toks := tk' } : Shared) with heap := h', toks := tk } ∧ Fr h₀ env.locals h' m' ∧ News h₀ env.locals h' n' ∧ (∀ z ∈ own ++ news₁, ¬ Ch z.1 → z ∈ n') ∧ J (i + 1) m' n') →
        LoopStepU h₀ env.locals [I] own (J (i + 1)) { s with heap := hh', toks := tk' } .next s₂ := by
      rintro ⟨h', tk, m', n', e, F', N', K', hJ'⟩
      obtain ⟨oI, hI1, hI2⟩ := hSt _ _ hSt'
      have own' : ∀ z ∈ own, z ∈ n' := fun z hz => K' z (List.mem_append_left _ hz) ((hfp _ (hown z hz)).elim (fun e => e ▸ nCI) fun h => h)
      have hIo : (I, oI) ∈ own := hin' _ hIf hI0 oI hI1
      have hI' := (N' _ (own' _ hIo)).1
      refine ⟨rfl, h', tk, m', n'.filter (fun z => z.1 ≠ I), e, F', fun p hp => ?_, fun p hp hq => ?_, mono _ _ _ _ hJ' fun z hz hc => ?_⟩
      · rcases List.mem_append.mp hp with hp | hp
        · exact N' p (own' p hp)
        · exact N' p (List.mem_filter.mp hp).1
      · exact (of_decide_eq_true (List.mem_filter.mp hp).2) (List.mem_singleton.mp hq)
      · refine List.mem_filter.mpr ⟨hz, decide_eq_true fun q => ?_⟩
        rcases hc with hc | hc
        · have hz1 := (N' z hz).1
          rw [q] at hz1
          rw [show z.2 = oI from Option.some.inj (hz1.symm.trans hI')] at hc
          exact hI2 hc
        · exact hc q
    cases f with
    | ret v => exact .ret p
    | brk => exact .brk p
    | next => exact .next (fin p)
    | cont => exact .cont (fin p)
  · rintro h' tk m' news' F' N' _ hJ
    exact done m' news' h' tk hJ F' N'
theorem list_loopC {t : Addr} {vs : List Value} {k : Nat} (hh : A.handled = none) (ht : (t, W.listOf vs.toArray k) ∈ news) (F : Fr h₀ env.locals s.heap m) (N : News h₀ env.locals s.heap news) (Ch : Addr → Prop) (hCh : ∀ a, Ch a → a ≠ t ∧ ∃ o, (a, o) ∈ news)
    (J : Nat → (Str → Option Value) → Led → Prop)
    (mono : ∀ I, (∀ z ∈ news, z.1 < I) → ∀ i m n n', J i m n → (∀ z ∈ n, (Asked z.2 ∨ z.1 ≠ I) → z ∈ n') → J i m n')
    (h0 : J 0 m news)
    (turn : ∀ i v m₁ n₁ h tk, vs[i]? = some v → J i m₁ n₁ → Fr h₀ env.locals h (fun y => if y = x then some v else m₁ y) → News h₀ env.locals h n₁ →
      wpAny (model prog w) A (execs body env) (TurnC h₀ env.locals Ch (J (i + 1)) n₁ { s with heap := h, toks := tk } Q) E { s with heap := h, toks := tk })
    (done : ∀ m₁ n₁ h tk, J vs.length m₁ n₁ → Fr h₀ env.locals h m₁ → News h₀ env.locals h n₁ → Q .next { s with heap := h, toks := tk }) :
    wpAny (model prog w) A (pyIter (.ref t)) (fun it s₂ => LoopAtV prog w A h₀ env x body Q E it s₂) E s := by
  have ht' := N _ ht
  have hls : s.heap.IsList t vs.toArray := ⟨_, ht'.1, rfl, _, rfl⟩
  have hlt : t < s.heap.objs.size := Heap.lt_size ht'.1
  have hne : t ≠ s.heap.objs.size := Nat.ne_of_lt hlt
  have nlt : ∀ z ∈ news, z.1 < s.heap.objs.size := fun z hz => Heap.lt_size (N z hz).1
  refine wpAny_pyIter_list hls ?_
  refine at_loopC (Walks.list (prog := prog) (w := w) hh s.heap.objs.size t hne vs.toArray) ?_ (next_is_new F) (.head _) nlt ⟨⟨_, Heap.get?_push_size _ rfl, rfl, rfl⟩, hls.at fun o e => Heap.get?_push_of_some _ e⟩ (F.push _) (fun p hp => ⟨Heap.get?_push_of_some _ (N p hp).1, (N p hp).2⟩) Ch (fun a h => (hCh a h).2) ?_ ?_ J (mono _ nlt) h0 ?_ ?_
  · intro hm
    rcases List.mem_cons.mp hm with e | hm
    · exact absurd F.ns.lt (e ▸ Nat.lt_irrefl _)
    · exact ht'.2.1 (List.mem_singleton.mp hm).symm
  · intro b hb
    rcases List.mem_cons.mp hb with e | hb
    · exact .inl e
    · rw [List.mem_singleton.mp hb]
      exact .inr fun h => (hCh t h).1 rfl
  · rintro i h ⟨⟨o, h1, h2, _⟩, _⟩
    refine ⟨o, h1, fun ha => ?_⟩
    unfold Asked at ha
    rw [h2] at ha
    rcases ha with ha | ha | ha | ⟨a, ha⟩
    · exact absurd ha (by decide)
    · exact absurd ha (by decide)
    · exact absurd ha (by decide)
    · cases ha
  · rintro i v m₁ n₁ h tk hi hP hJ F₁ N₁
    exact turn i v m₁ n₁ h tk (by simpa using hP) hJ F₁ N₁
  · rintro m₁ n₁ h tk hJ F₁ N₁
    exact done m₁ n₁ h tk (by simpa using hJ) F₁ N₁
theorem range_loopC {r : Addr} {b₀ : Int} {t₀ u₀ v₀ : Tok} {n : Nat} (hh : A.handled = none) (hr : IsRange s.heap r 0 b₀ 1 t₀ u₀ v₀) (hsmall : Builtin.Range.small 0 b₀ 1 = true) (hn : Builtin.Range.rangeSize 0 b₀ 1 = (n : Int)) (F : Fr h₀ env.locals s.heap m) (N : News h₀ env.locals s.heap news) (Ch : Addr → Prop) (hCh : ∀ a, Ch a → ∃ o, (a, o) ∈ news)
    (J : Nat → (Str → Option Value) → Led → Prop)
    (mono : ∀ I, (∀ z ∈ news, z.1 < I) → ∀ i m n n', J i m n → (∀ z ∈ n, (Asked z.2 ∨ z.1 ≠ I) → z ∈ n') → J i m n')
    (h0 : J 0 m news)
    (turn : ∀ i t m₁ n₁ h tk, i < n → J i m₁ n₁ → Fr h₀ env.locals h (fun y => if y = x then some (.int (i : Int) t) else m₁ y) → News h₀ env.locals h n₁ →
      wpAny (model prog w) A (execs body env) (TurnC h₀ env.locals Ch (J (i + 1)) n₁ { s with heap := h, toks := tk } Q) E { s with heap := h, toks := tk })
    (done : ∀ m₁ n₁ h tk, J n m₁ n₁ → Fr h₀ env.locals h m₁ → News h₀ env.locals h n₁ → Q .next { s with heap := h, toks := tk }) :
    wpAny (model prog w) A (pyIter (.ref r)) (fun it s₂ => LoopAtV prog w A h₀ env x body Q E it s₂) E s := by
  have nlt : ∀ z ∈ news, z.1 < s.heap.objs.size := fun z hz => Heap.lt_size (N z hz).1
  refine wpAny_pyIter_range hr hsmall ?_
  have W : Walks prog w A s.heap.objs.size [s.heap.objs.size] [s.heap.objs.size] n (fun i v => i < n ∧ ∃ t, v = .int (0 + i * 1) t)
      (fun i h => IsRangeIter h s.heap.objs.size (0 + (i : Nat) * 1) ((n : Int) - (i : Nat)) 1) := (Walks.range hh _ 0 1 n).bound
  refine at_loopC W ?_ (next_is_new F) (.head _) nlt (by show IsRangeIter _ _ _ _ _; rw [hn]; simpa using Heap.get?_push_size _ rfl) (F.push _) (fun p hp => ⟨Heap.get?_push_of_some _ (N p hp).1, (N p hp).2⟩) Ch hCh ?_ ?_ J (mono _ nlt) h0 ?_ ?_
  · intro hm
    exact absurd F.ns.lt ((List.mem_singleton.mp hm) ▸ Nat.lt_irrefl _)
  · intro b hb
    exact .inl (List.mem_singleton.mp hb)
  · rintro i h hi
    refine ⟨_, hi, fun ha => ?_⟩
    unfold Asked at ha
    rcases ha with ha | ha | ha | ⟨a, ha⟩
    · exact absurd (show Value.type "range_iterator" = _ from ha) (by decide)
    · exact absurd (show Value.type "range_iterator" = _ from ha) (by decide)
    · exact absurd (show Value.type "range_iterator" = _ from ha) (by decide)
    · cases ha
  · rintro i v m₁ n₁ h tk hi ⟨_, t, rfl⟩ hJ F₁ N₁
    rw [show (0 : Int) + (i : Int) * 1 = (i : Int) by omega] at F₁
    exact turn i t m₁ n₁ h tk hi hJ F₁ N₁
  · rintro m₁ n₁ h tk hJ F₁ N₁
    exact done m₁ n₁ h tk hJ F₁ N₁
theorem frame_of {ys : List Str} {m₁ m : Str → Option Value} {v : Option Value} (hm : ∀ z, z ≠ x → ys.contains z = false → m₁ z = m z) : (fun y => if y = x then v else m₁ y) = fun y => if y = x then v else anyBut ys m₁ m y := by
  funext z
  unfold anyBut
  by_cases h1 : z = x
  · rw [if_pos h1, if_pos h1]
  · rw [if_neg h1, if_neg h1]
    cases h2 : ys.contains z with
    | true => rfl
    | false => exact hm z h1 h2
theorem frame_end {ys : List Str} {m₁ m : Str → Option Value} (hm : ∀ z, z ≠ x → ys.contains z = false → m₁ z = m z) : m₁ = fun y => if y = x then m₁ x else anyBut ys m₁ m y := by
  funext z
  unfold anyBut
  by_cases h1 : z = x
  · rw [if_pos h1, h1]
  · rw [if_neg h1]
    cases h2 : ys.contains z with
    | true => rfl
    | false => exact hm z h1 h2
theorem list_loopU {t : Addr} {vs : List Value} {k : Nat} (ys : List Str) (hh : A.handled = none) (ht : (t, W.listOf vs.toArray k) ∈ news) (F : Fr h₀ env.locals s.heap m) (N : News h₀ env.locals s.heap news) (Ch : Addr → Prop) (hCh : ∀ a, Ch a → a ≠ t ∧ ∃ o, (a, o) ∈ news)
    (J : Nat → Led → Prop)
    (mono : ∀ I, (∀ z ∈ news, z.1 < I) → ∀ i n n', J i n → (∀ z ∈ n, (Asked z.2 ∨ z.1 ≠ I) → z ∈ n') → J i n')
    (h0 : J 0 news)
    (turn : ∀ i v u n₁ h tk, vs[i]? = some v → J i n₁ → Fr h₀ env.locals h (fun y => if y = x then some v else anyBut ys u m y) → News h₀ env.locals h n₁ →
      wpAny (model prog w) A (execs body env) (TurnC h₀ env.locals Ch (fun m' n' => (∀ z, z ≠ x → ys.contains z = false → m' z = m z) ∧ J (i + 1) n') n₁ { s with heap := h, toks := tk } Q) E { s with heap := h, toks := tk })
    (done : ∀ u n₁ h tk, J vs.length n₁ → Fr h₀ env.locals h (fun y => if y = x then u x else anyBut ys u m y) → News h₀ env.locals h n₁ → Q .next { s with heap := h, toks := tk }) :
    wpAny (model prog w) A (pyIter (.ref t)) (fun it s₂ => LoopAtV prog w A h₀ env x body Q E it s₂) E s := by
  refine list_loopC hh ht F N Ch hCh (fun i m₁ n₁ => (∀ z, z ≠ x → ys.contains z = false → m₁ z = m z) ∧ J i n₁) (fun I hI i m n n' hJ k => ⟨hJ.1, mono I hI i n n' hJ.2 k⟩) ⟨fun _ _ _ => rfl, h0⟩ ?_ ?_
  · rintro i v m₁ n₁ h tk hv ⟨hm, hJ⟩ F₁ N₁
    rw [frame_of hm] at F₁
    exact turn i v m₁ n₁ h tk hv hJ F₁ N₁
  · rintro m₁ n₁ h tk ⟨hm, hJ⟩ F₁ N₁
    rw [frame_end hm] at F₁
    exact done m₁ n₁ h tk hJ F₁ N₁
theorem range_loopU {r : Addr} {b₀ : Int} {t₀ u₀ v₀ : Tok} {n : Nat} (ys : List Str) (hh : A.handled = none) (hr : IsRange s.heap r 0 b₀ 1 t₀ u₀ v₀) (hsmall : Builtin.Range.small 0 b₀ 1 = true) (hn : Builtin.Range.rangeSize 0 b₀ 1 = (n : Int)) (F : Fr h₀ env.locals s.heap m) (N : News h₀ env.locals s.heap news) (Ch : Addr → Prop) (hCh : ∀ a, Ch a → ∃ o, (a, o) ∈ news)
    (J : Nat → Led → Prop)
    (mono : ∀ I, (∀ z ∈ news, z.1 < I) → ∀ i n n', J i n → (∀ z ∈ n, (Asked z.2 ∨ z.1 ≠ I) → z ∈ n') → J i n')
    (h0 : J 0 news)
    (turn : ∀ i t u n₁ h tk, i < n → J i n₁ → Fr h₀ env.locals h (fun y => if y = x then some (.int (i : Int) t) else anyBut ys u m y) → News h₀ env.locals h n₁ →
      wpAny (model prog w) A (execs body env) (TurnC h₀ env.locals Ch (fun m' n' => (∀ z, z ≠ x → ys.contains z = false → m' z = m z) ∧ J (i + 1) n') n₁ { s with heap := h, toks := tk } Q) E { s with heap := h, toks := tk })
    (done : ∀ u n₁ h tk, J n n₁ → Fr h₀ env.locals h (fun y => if y = x then u x else anyBut ys u m y) → News h₀ env.locals h n₁ → Q .next { s with heap := h, toks := tk }) :
    wpAny (model prog w) A (pyIter (.ref r)) (fun it s₂ => LoopAtV prog w A h₀ env x body Q E it s₂) E s := by
  refine range_loopC hh hr hsmall hn F N Ch hCh (fun i m₁ n₁ => (∀ z, z ≠ x → ys.contains z = false → m₁ z = m z) ∧ J i n₁) (fun I hI i m n n' hJ k => ⟨hJ.1, mono I hI i n n' hJ.2 k⟩) ⟨fun _ _ _ => rfl, h0⟩ ?_ ?_
  · rintro i t m₁ n₁ h tk hi ⟨hm, hJ⟩ F₁ N₁
    rw [frame_of hm] at F₁
    exact turn i t m₁ n₁ h tk hi hJ F₁ N₁
  · rintro m₁ n₁ h tk ⟨hm, hJ⟩ F₁ N₁
    rw [frame_end hm] at F₁
    exact done m₁ n₁ h tk hJ F₁ N₁
end
section
variable {prog : Program} {w : World} {A : Around} {E : Value → Shared → Prop} {s : Shared} {h₀ : Heap} {L a : Addr} {m : Str → Option Value} {cn : Str} {cs : Scope} {ccd : Value} {cl : List (Str × Addr)}
  {x : Str} {v : Value} {news : Led} {c : Addr} {o : Obj} {v₀ : Option Value}
/-- a cell is written: the ledger stays abstract, the object keeps its class -/
theorem storeC_led {M : Model} {Q : Unit → Shared → Prop} (F : Fr h₀ L s.heap m) (N : News h₀ L s.heap news) (hc : cl.lookup x = some c) (hm : (c, o) ∈ news) (hd : o.data = .cell v₀)
    (h : ∀ h' n', Fr h₀ L h' m → News h₀ L h' n' → (c, ({ o with data := .cell (some v) } : Obj)) ∈ n' → (∀ z ∈ news, z.1 ≠ c → z ∈ n') → Q () { s with heap := h' })
    (hk : cs.kind = .function := by rfl) (hx : (envX cn cs L a ccd cl).kindOf x = some .cell := by rfl) : wpAny M A (storeName (envX cn cs L a ccd cl) x v) Q E s := by
  have hmem := N (c, o) hm
  have N2 := focus N hm
  unfold storeName
  simp only [hx, hk]
  refine wpAny_bind (wpAny_cellOf (env := envX cn cs L a ccd cl) hc ?_)
  unfold cellSet
  refine wpAny_bind (wpAny_load hmem.1 ?_)
  rw [hd]
  refine wpAny_update hmem.1 ?_
  have hs : Heap.SameBut c s.heap (s.heap.update c fun o => { o with data := .cell (some v) }) := Heap.SameBut.update ..
  have ho' : (s.heap.update c fun o => { o with data := .cell (some v) }).get? c = some { o with data := .cell (some v) } := Heap.get?_update_self _ hmem.1 rfl
  refine h _ _ ⟨F.ns.sameBut hs (Ne.symm hmem.2.1), fun b ob e => (hs.2 b (fun q => ?_)).trans (F.keep b ob e), F.above⟩ (News.setAt (own := []) N2 (fun _ h => (nomatch h)) off_filter hs ho') (.head _) in_filter
  rw [q, hmem.2.2] at e; cases e
end
end
section
theorem off_Gq : True := by
  w_top off
  exact True.intro
theorem unr_Gq {a b : Nat} (h : a < b) : a < b := h
local macro_rules | `(tactic| k_room) => `(tactic| ((try simp only [depth_under_make, depth_under_kw, depth_in1, depth_deeper, depth_caller]); (try dsimp only [ktrTop]); (try simp only [recursionLimit]); omega))
local macro_rules | `(tactic| k_units) => `(tactic| ((try simp only [units_in1, units_deeper, Around.mark_units, units_caller]); (try dsimp only [ktrTop]); (try simp only [cLine]); omega))
local macro_rules | `(tactic| k_enter) => `(tactic| (refine' code_def ?k1 ?k2 ?k3 ?k4 ?k5 ?kA ?kF ?kK ?k6 ?k7 ?k8 ?k9 ?kB ?_ ?c2 ?c3 ?c4 ?c5; (case kA => exact rfl); (case kF => exact rfl); (case kK => first | assumption | exact rfl); (case k1 => k_asm); (case k2 => k_asm); (case k3 => k_asm); (case k4 => k_asm); (case k5 => k_asm); (case k6 => k_is); (case k7 => k_is); (case k8 => k_room); (case k9 => first | exact BindsTo.of_eq rfl | exact binds_K (by k_in) rfl (by k_is) rfl rfl rfl | fail "k_enter: no rule for these arguments"); (case c5 => decide); (case kB => exact locs rfl); (case c2 => exact rfl); (case c3 => exact rfl); (case c4 => exact rfl); k_whole; intro g' L' h' FG' F' N' B' X' T'; (try dsimp only); (try k_lift B'); (try k_fold)))
local macro_rules | `(tactic| k_all) => `(tactic| (refine ne_of_below (by assumption) ?_; first | exact Nat.le_refl _ | omega))
local macro_rules | `(tactic| k_mem) => `(tactic| first | exact List.Mem.head _ | (refine List.Mem.tail _ ?_; k_mem) | assumption)
open PySem.Builtin PySem.Builtin.Str
theorem slice_is {t : Str} {a b : Nat} (hab : a ≤ b) (hb : b ≤ t.length) : Txt.slice t (some (a : Int)) (some (b : Int)) = ⟨((t.cps.toList.drop a).take (b - a)).toArray⟩ := by
  rw [show Txt.slice t (some (a : Int)) (some (b : Int)) = StrLaws.sliceText t (some (a : Int)) (some (b : Int)) from rfl]
  exact StrLaws.sliceText_nat t hab hb
theorem slice_clip {t : Str} {a b : Nat} (hb : t.length ≤ b) : Txt.slice t (some (a : Int)) (some (b : Int)) = Txt.slice t (some (a : Int)) (some (t.length : Int)) := by
  have e : strSliceIndices (some (a : Int)) (some (b : Int)) 1 t.length = strSliceIndices (some (a : Int)) (some (t.length : Int)) 1 t.length := by
    unfold strSliceIndices
    have h1 : ¬ ((b : Int) < 0) := by omega
    have h2 : ¬ ((t.length : Int) < 0) := by omega
    have h3 : min (b : Int) (t.length : Int) = min (t.length : Int) (t.length : Int) := by omega
    simp only [h1, h2, if_false, h3, show (1 : Int) > 0 by decide, if_true]
  unfold Txt.slice
  rw [e]
theorem from_nat (t : Str) (p : Nat) : fromIndex t.length (p : Int) = p := by
  unfold fromIndex
  rw [if_neg (by omega)]
  omega
/-- the piece of the text at p of a word's length is the word exactly if the word starts there -/
theorem slice_word {t w : Str} {p : Nat} (hp : p ≤ t.length) : Txt.slice t (some (p : Int)) (some ((p + w.length : Nat) : Int)) = w ↔ Txt.startswith3 t w (p : Int) = true := by
  unfold Txt.startswith3
  rw [from_nat]
  by_cases hb : p + w.length ≤ t.length
  · rw [slice_is (by omega) hb, decide_eq_true hb, Bool.true_and]
    unfold subAt
    rw [beq_iff_eq]
    have e : t.cps.extract p (p + w.length) = ((t.cps.toList.drop p).take (p + w.length - p)).toArray := by
      apply Array.ext'
      simp
    rw [e]
    constructor
    · intro h
      exact congrArg Str.cps h
    · intro h
      exact Str.ext' h
  · rw [decide_eq_false hb, Bool.false_and, slice_clip (by omega), slice_is hp (Nat.le_refl _)]
    constructor
    · intro h
      have h2 := congrArg Str.length h
      simp [Str.length] at h2 hb hp
      omega
    · intro h
      cases h
theorem slice_self (t : Str) : Txt.slice t (some ((0 : Nat) : Int)) (some (t.length : Int)) = t := by
  rw [slice_is (Nat.zero_le _) (Nat.le_refl _)]
  apply Str.ext'
  show ((t.cps.toList.drop 0).take (t.length - 0)).toArray = t.cps
  rw [List.drop_zero, Nat.sub_zero, List.take_of_length_le (by simp [Str.length])]
theorem sw_le {t w : Str} {p : Nat} (h : Txt.startswith3 t w (p : Int) = true) : p + w.length ≤ t.length := by
  unfold Txt.startswith3 at h
  rw [from_nat] at h
  simp only [Bool.and_eq_true, decide_eq_true_eq] at h
  exact h.1
/-- the first word in order that leaves a loser -/
def fwA (ws : List Str) (t : Str) : Nat → Nat → Option Str
  | 0, _ => none
  | f + 1, p => ws.find? fun w => Txt.startswith3 t w (p : Int) && (fwA ws t f (p + w.length)).isNone
def fw (ws : List Str) (t : Str) (p : Nat) : Option Str := fwA ws t (t.length + 1 - p) p
theorem find_congr {α : Type} {f g : α → Bool} : ∀ {l : List α}, (∀ a ∈ l, f a = g a) → l.find? f = l.find? g
  | [], _ => rfl
  | a :: l, h => by
    rw [List.find?_cons, List.find?_cons, h a (.head _), find_congr fun b hb => h b (.tail _ hb)]
theorem fwA_stable {ws : List Str} {t : Str} (hw : ∀ w ∈ ws, 1 ≤ w.length) : ∀ f f' p, t.length + 1 ≤ p + f → t.length + 1 ≤ p + f' → fwA ws t f p = fwA ws t f' p
  | 0, 0, _, _, _ => rfl
  | 0, f' + 1, p, h, _ => by
    show none = ws.find? _
    symm
    rw [List.find?_eq_none]
    intro w _
    have hs : Txt.startswith3 t w (p : Int) = false := by
      cases e : Txt.startswith3 t w (p : Int) with
      | false => rfl
      | true => have := sw_le e; omega
    simp [hs]
  | f + 1, 0, p, _, h => by
    show ws.find? _ = none
    rw [List.find?_eq_none]
    intro w _
    have hs : Txt.startswith3 t w (p : Int) = false := by
      cases e : Txt.startswith3 t w (p : Int) with
      | false => rfl
      | true => have := sw_le e; omega
    simp [hs]
  | f + 1, f' + 1, p, h, h' => by
    show ws.find? _ = ws.find? _
    refine find_congr fun w hw' => ?_
    rw [fwA_stable hw f f' (p + w.length) (by have := hw w hw'; omega) (by have := hw w hw'; omega)]
def fits (ws : List Str) (t : Str) (p : Nat) (w : Str) : Bool := Txt.startswith3 t w (p : Int) && (fw ws t (p + w.length)).isNone
theorem fw_eq {ws : List Str} {t : Str} (hw : ∀ w ∈ ws, 1 ≤ w.length) (p : Nat) : fw ws t p = ws.find? (fits ws t p) := by
  show fwA ws t (t.length + 1 - p) p = _
  rw [fwA_stable hw (t.length + 1 - p) (t.length + 1 - p + 1) p (by omega) (by omega)]
  show ws.find? _ = _
  refine find_congr fun w hw' => ?_
  unfold fits fw
  rw [fwA_stable hw (t.length + 1 - p) (t.length + 1 - (p + w.length)) (p + w.length) (by have := hw w hw'; omega) (by omega)]
theorem fw_mem {ws : List Str} {t w : Str} {p : Nat} (hw : ∀ w ∈ ws, 1 ≤ w.length) (h : fw ws t p = some w) : w ∈ ws ∧ fits ws t p w = true := by
  rw [fw_eq hw] at h
  exact ⟨List.mem_of_find?_eq_some h, List.find?_some h⟩
theorem fits_le {ws : List Str} {t w : Str} {p : Nat} (h : fits ws t p w = true) : p + w.length ≤ t.length := by
  unfold fits at h
  rw [Bool.and_eq_true] at h
  exact sw_le h.1
end
section
theorem off_Gr : True := by
  w_top off
  exact True.intro
theorem unr_Gr {a b : Nat} (h : a < b) : a < b := h
local macro_rules | `(tactic| k_room) => `(tactic| ((try simp only [depth_under_make, depth_under_kw, depth_in1, depth_deeper, depth_caller]); (try dsimp only [ktrTop]); (try simp only [recursionLimit]); omega))
local macro_rules | `(tactic| k_units) => `(tactic| ((try simp only [units_in1, units_deeper, Around.mark_units, units_caller]); (try dsimp only [ktrTop]); (try simp only [cLine]); omega))
local macro_rules | `(tactic| k_enter) => `(tactic| (refine' code_def ?k1 ?k2 ?k3 ?k4 ?k5 ?kA ?kF ?kK ?k6 ?k7 ?k8 ?k9 ?kB ?_ ?c2 ?c3 ?c4 ?c5; (case kA => exact rfl); (case kF => exact rfl); (case kK => first | assumption | exact rfl); (case k1 => k_asm); (case k2 => k_asm); (case k3 => k_asm); (case k4 => k_asm); (case k5 => k_asm); (case k6 => k_is); (case k7 => k_is); (case k8 => k_room); (case k9 => first | exact BindsTo.of_eq rfl | exact binds_K (by k_in) rfl (by k_is) rfl rfl rfl | fail "k_enter: no rule for these arguments"); (case c5 => decide); (case kB => exact locs rfl); (case c2 => exact rfl); (case c3 => exact rfl); (case c4 => exact rfl); k_whole; intro g' L' h' FG' F' N' B' X' T'; (try dsimp only); (try k_lift B'); (try k_fold)))
local macro_rules | `(tactic| k_all) => `(tactic| (refine ne_of_below (by assumption) ?_; first | exact Nat.le_refl _ | omega))
local macro_rules | `(tactic| k_mem) => `(tactic| first | exact List.Mem.head _ | (refine List.Mem.tail _ ?_; k_mem) | assumption)
structure ER where
  x : Addr
  k : EK
  d : Nat → Option Nat
  r : Nat → Nat
  dx : Addr
def ER0 : ER := ⟨0, .one [], fun _ => none, fun _ => 0, 0⟩
def look (es : List ER) (x : Addr) : ER := match es.find? (fun e => e.x == x) with
  | some e => e
  | none => ER0
theorem look_of : ∀ {es : List ER}, es.Pairwise (fun a b => a.x ≠ b.x) → ∀ e ∈ es, look es e.x = e
  | [], _, _, h => nomatch h
  | a :: es, hP, e, h => by
    unfold look
    rw [List.find?_cons]
    rcases List.mem_cons.mp h with rfl | h
    · simp
    · have hne : (a.x == e.x) = false := beq_eq_false_iff_ne.mpr ((List.pairwise_cons.mp hP).1 e h)
      rw [hne]
      exact look_of (List.pairwise_cons.mp hP).2 e h
def gramOf (es : List ER) (t : Str) : Gram := ⟨es.map (·.x), fun x => (look es x).k, fun x => (look es x).dx, t, fun x => (look es x).d, fun x => (look es x).r⟩
section
variable {es : List ER} {t : Str}
theorem ord_x (hord : es.Pairwise fun a b => a.x < b.dx) (hdx : ∀ e ∈ es, e.dx < e.x) : es.Pairwise fun a b => a.x < b.x := hord.imp_of_mem fun {a b} _ hb h => Nat.lt_trans h (hdx b hb)
theorem ord_d (hord : es.Pairwise fun a b => a.x < b.dx) (hdx : ∀ e ∈ es, e.dx < e.x) : es.Pairwise fun a b => a.dx < b.dx := hord.imp_of_mem fun {a b} ha _ h => Nat.lt_trans (hdx a ha) h
theorem pw_inj {α : Type} {f : α → Nat} {x y : α} : ∀ {l : List α}, l.Pairwise (fun a b => f a < f b) → x ∈ l → y ∈ l → f x = f y → x = y
  | [], _, h, _, _ => nomatch h
  | a :: l, hP, hx, hy, e => by
    obtain ⟨h1, h2⟩ := List.pairwise_cons.mp hP
    rcases List.mem_cons.mp hx with hx' | hx' <;> rcases List.mem_cons.mp hy with hy' | hy'
    · rw [hx', hy']
    · exact absurd e (Nat.ne_of_lt (hx' ▸ h1 y hy'))
    · exact absurd e.symm (Nat.ne_of_lt (hy' ▸ h1 x hx'))
    · exact pw_inj h2 hx' hy' e
/-- the grammar of a list of rows, each row's equation by itself -/
theorem gramOf_ok (hord : es.Pairwise fun a b => a.x < b.dx) (hdx : ∀ e ∈ es, e.dx < e.x) (hfew : es.length ≤ 100) (ht : t.length ≤ 100)
    (kids : ∀ e ∈ es, ∀ m ∈ e.k.kids, ∃ e' ∈ es, e'.x = m)
    (bound : ∀ e ∈ es, ∀ p q, p ≤ t.length → e.d p = some q → p ≤ q ∧ q ≤ t.length)
    (rk : ∀ e ∈ es, ∀ p, p ≤ t.length → e.r p ≤ 60)
    (eqn : ∀ e ∈ es, ∀ p, p ≤ t.length → match e.k with
      | .lit wd => wd.length ≤ 100 ∧ e.d p = if Txt.startswith3 t wd p then some (p + wd.length) else none
      | .seq ms => ms ≠ [] ∧ ms.length ≤ 10 ∧ e.d p = seqDen (gramOf es t).den ms p ∧ seqRk (gramOf es t).den (gramOf es t).rk (e.r p) ms p
      | .one ms => ms.length ≤ 10 ∧ e.d p = oneDen (gramOf es t).den ms p ∧ ∀ m ∈ ms, (gramOf es t).rk m p < e.r p
      | .neg m => e.d p = (match (gramOf es t).den m p with | none => some p | some _ => none) ∧ (gramOf es t).rk m p < e.r p) : (gramOf es t).Ok := by
  have hx := ord_x hord hdx
  have hlook : ∀ e ∈ es, look es e.x = e := look_of (hx.imp fun h => Nat.ne_of_lt h)
  have hin : ∀ x ∈ (gramOf es t).xs, ∃ e ∈ es, e.x = x ∧ look es x = e := fun x h => by
    obtain ⟨e, he, rfl⟩ := List.mem_map.mp h
    exact ⟨e, he, rfl, hlook e he⟩
  refine ⟨?_, ?_, ht, ?_, ?_, ?_, ?_, ?_⟩
  · exact List.pairwise_map.mpr (hx.imp fun h => Nat.ne_of_lt h)
  · show (es.map _).length ≤ 100
    rw [List.length_map]
    exact hfew
  · intro x h1 y h2 e
    obtain ⟨a, ha, rfl, e1⟩ := hin x h1
    obtain ⟨b, hb, rfl, e2⟩ := hin y h2
    have e' : (look es a.x).dx = (look es b.x).dx := e
    rw [e1, e2] at e'
    rw [pw_inj (f := (·.dx)) (ord_d hord hdx) ha hb e']
  · intro x h1 m hm
    obtain ⟨a, ha, rfl, e1⟩ := hin x h1
    have hm' : m ∈ (look es a.x).k.kids := hm
    rw [e1] at hm'
    obtain ⟨b, hb, rfl⟩ := kids a ha m hm'
    exact List.mem_map.mpr ⟨b, hb, rfl⟩
  · intro x h1 p q hp h
    obtain ⟨a, ha, rfl, e1⟩ := hin x h1
    have h' : (look es a.x).d p = some q := h
    rw [e1] at h'
    exact bound a ha p q hp h'
  · intro x h1 p hp
    obtain ⟨a, ha, rfl, e1⟩ := hin x h1
    show (look es a.x).r p ≤ 60
    rw [e1]
    exact rk a ha p hp
  · intro x h1 p hp
    obtain ⟨a, ha, rfl, e1⟩ := hin x h1
    have := eqn a ha p hp
    show match (look es a.x).k with
      | .lit wd => wd.length ≤ 100 ∧ (look es a.x).d p = if Txt.startswith3 t wd p then some (p + wd.length) else none
      | .seq ms => ms ≠ [] ∧ ms.length ≤ 10 ∧ (look es a.x).d p = seqDen (gramOf es t).den ms p ∧ seqRk (gramOf es t).den (gramOf es t).rk ((look es a.x).r p) ms p
      | .one ms => ms.length ≤ 10 ∧ (look es a.x).d p = oneDen (gramOf es t).den ms p ∧ ∀ m ∈ ms, (gramOf es t).rk m p < (look es a.x).r p
      | .neg m => (look es a.x).d p = (match (gramOf es t).den m p with | none => some p | some _ => none) ∧ (gramOf es t).rk m p < (look es a.x).r p
    rw [e1]
    exact this
end
/-! the rows of the two rules -/
def isW (ws : List Str) (t : Str) (p : Nat) : Option Nat := if (fw ws t p).isSome then none else some p
def rowD (ws : List Str) (t wd : Str) (p : Nat) : Option Nat := if fits ws t p wd then some (p + wd.length) else none
def eLit (t wd : Str) (T : TA) : ER := ⟨T.lit, .lit wd, fun p => if Txt.startswith3 t wd (p : Int) then some (p + wd.length) else none, fun _ => 0, T.ld⟩
def fW (ws : List Str) (t : Str) (xw : Addr) (p : TA × Str) : List ER :=
  [eLit t p.2 p.1, ⟨p.1.n, .neg xw, isW ws t, fun k => 4 * (t.length - k) + 4, p.1.nd⟩, ⟨p.1.s, .seq [p.1.lit, p.1.n], rowD ws t p.2, fun k => 4 * (t.length - k) + 2, p.1.sd⟩]
def fL (ws : List Str) (t : Str) (xl : Addr) (p : TA × Str) : List ER :=
  [eLit t p.2 p.1, ⟨p.1.s, .seq [p.1.lit, xl], rowD ws t p.2, fun k => 4 * (t.length - k) + 1, p.1.sd⟩, ⟨p.1.n, .neg p.1.s, fun k => if fits ws t k p.2 then none else some k, fun k => 4 * (t.length - k) + 2, p.1.nd⟩]
def rW (ws : List Str) (t : Str) (Ts : List (TA × Str)) (xw dw : Addr) : ER := ⟨xw, .one (Ts.map (·.1.s)), fun p => (fw ws t p).map fun w => p + w.length, fun k => 4 * (t.length - k) + 3, dw⟩
def rL (ws : List Str) (t : Str) (Tl : List (TA × Str)) (xl dl : Addr) : ER := ⟨xl, .seq (Tl.map (·.1.n)), isW ws t, fun k => 4 * (t.length - k) + 3, dl⟩
def rows (ws : List Str) (t : Str) (Ts Tl : List (TA × Str)) (xw dw xl dl : Addr) : List ER := Ts.flatMap (fW ws t xw) ++ (rW ws t Ts xw dw :: (Tl.flatMap (fL ws t xl) ++ [rL ws t Tl xl dl]))
theorem fW_at {ws : List Str} {t : Str} {xw : Addr} {p : TA × Str} (h : TOrd true p.1) {e : ER} (he : e ∈ fW ws t xw p) : p.1.ld ≤ e.dx ∧ e.dx < e.x ∧ e.x ≤ p.1.s := by
  obtain ⟨h1, h2, h3, h4, h5⟩ := h
  have l1 : p.1.lit < p.1.n := Nat.lt_trans h2 h3
  have l2 : p.1.n < p.1.s := Nat.lt_trans h4 h5
  simp only [fW, List.mem_cons, List.not_mem_nil, or_false] at he
  rcases he with rfl | rfl | rfl
  · exact ⟨Nat.le_refl _, h1, Nat.le_of_lt (Nat.lt_trans l1 l2)⟩
  · exact ⟨Nat.le_of_lt (Nat.lt_trans h1 h2), h3, Nat.le_of_lt l2⟩
  · exact ⟨Nat.le_of_lt (Nat.lt_trans (Nat.lt_trans h1 l1) h4), h5, Nat.le_refl _⟩
theorem fL_at {ws : List Str} {t : Str} {xl : Addr} {p : TA × Str} (h : TOrd false p.1) {e : ER} (he : e ∈ fL ws t xl p) : p.1.ld ≤ e.dx ∧ e.dx < e.x ∧ e.x ≤ p.1.n := by
  obtain ⟨h1, h2, h3, h4, h5⟩ := h
  have l1 : p.1.lit < p.1.s := Nat.lt_trans h2 h3
  have l2 : p.1.s < p.1.n := Nat.lt_trans h4 h5
  simp only [fL, List.mem_cons, List.not_mem_nil, or_false] at he
  rcases he with rfl | rfl | rfl
  · exact ⟨Nat.le_refl _, h1, Nat.le_of_lt (Nat.lt_trans l1 l2)⟩
  · exact ⟨Nat.le_of_lt (Nat.lt_trans h1 h2), h3, Nat.le_of_lt l2⟩
  · exact ⟨Nat.le_of_lt (Nat.lt_trans (Nat.lt_trans h1 l1) h4), h5, Nat.le_refl _⟩
theorem fW_pw {ws : List Str} {t : Str} {xw : Addr} {p : TA × Str} (h : TOrd true p.1) : (fW ws t xw p).Pairwise fun a b => a.x < b.dx := by
  obtain ⟨h1, h2, h3, h4, h5⟩ := h
  have l1 : p.1.lit < p.1.sd := Nat.lt_trans (Nat.lt_trans h2 h3) h4
  simp only [fW, List.pairwise_cons, List.mem_cons, List.not_mem_nil, or_false]
  refine ⟨fun b hb => ?_, fun b hb => ?_, fun b hb => absurd hb (by simp), List.Pairwise.nil⟩
  · rcases hb with rfl | rfl
    · exact h2
    · exact l1
  · rw [hb]
    exact h4
theorem fL_pw {ws : List Str} {t : Str} {xl : Addr} {p : TA × Str} (h : TOrd false p.1) : (fL ws t xl p).Pairwise fun a b => a.x < b.dx := by
  obtain ⟨h1, h2, h3, h4, h5⟩ := h
  have l1 : p.1.lit < p.1.nd := Nat.lt_trans (Nat.lt_trans h2 h3) h4
  simp only [fL, List.pairwise_cons, List.mem_cons, List.not_mem_nil, or_false]
  refine ⟨fun b hb => ?_, fun b hb => ?_, fun b hb => absurd hb (by simp), List.Pairwise.nil⟩
  · rcases hb with rfl | rfl
    · exact h2
    · exact l1
  · rw [hb]
    exact h4
/-- how the addresses lie -/
structure Lay (Ts Tl : List (TA × Str)) (xw dw xl dl : Addr) : Prop where
  tw : ∀ p ∈ Ts, TOrd true p.1 ∧ p.1.s < dw
  pw : Ts.Pairwise fun A B => A.1.s < B.1.ld
  w : dw < xw
  tl : ∀ p ∈ Tl, TOrd false p.1 ∧ xw < p.1.ld ∧ p.1.n < dl
  pl : Tl.Pairwise fun A B => A.1.n < B.1.ld
  wl : xw < dl
  l : dl < xl
section
variable {ws : List Str} {t : Str} {Ts Tl : List (TA × Str)} {xw dw xl dl : Addr}
theorem rows_ord (H : Lay Ts Tl xw dw xl dl) : (rows ws t Ts Tl xw dw xl dl).Pairwise fun a b => a.x < b.dx := by
  unfold rows
  rw [List.pairwise_append]
  refine ⟨List.pairwise_flatMap.mpr ⟨fun p hp => fW_pw (H.tw p hp).1, H.pw.imp_of_mem fun {A B} hA hB h a ha b hb => ?_⟩, List.pairwise_cons.mpr ⟨fun b hb => ?_, List.pairwise_append.mpr ⟨List.pairwise_flatMap.mpr ⟨fun p hp => fL_pw (H.tl p hp).1, H.pl.imp_of_mem fun {A B} hA hB h a ha b hb => ?_⟩, List.pairwise_singleton _ _, fun a ha b hb => ?_⟩⟩, fun a ha b hb => ?_⟩
  · exact Nat.lt_of_le_of_lt (fW_at (H.tw A hA).1 ha).2.2 (Nat.lt_of_lt_of_le h (fW_at (H.tw B hB).1 hb).1)
  · rcases List.mem_append.mp hb with hb | hb
    · obtain ⟨p, hp, hb⟩ := List.mem_flatMap.mp hb
      exact Nat.lt_of_lt_of_le (H.tl p hp).2.1 (fL_at (H.tl p hp).1 hb).1
    · rw [List.mem_singleton.mp hb]
      exact H.wl
  · exact Nat.lt_of_le_of_lt (fL_at (H.tl A hA).1 ha).2.2 (Nat.lt_of_lt_of_le h (fL_at (H.tl B hB).1 hb).1)
  · obtain ⟨p, hp, ha⟩ := List.mem_flatMap.mp ha
    rw [List.mem_singleton.mp hb]
    exact Nat.lt_of_le_of_lt (fL_at (H.tl p hp).1 ha).2.2 (H.tl p hp).2.2
  · obtain ⟨p, hp, ha⟩ := List.mem_flatMap.mp ha
    have h1 : a.x < dw := Nat.lt_of_le_of_lt (fW_at (H.tw p hp).1 ha).2.2 (H.tw p hp).2
    rcases List.mem_cons.mp hb with rfl | hb
    · exact h1
    · have h2 := Nat.lt_trans h1 H.w
      rcases List.mem_append.mp hb with hb | hb
      · obtain ⟨q, hq, hb⟩ := List.mem_flatMap.mp hb
        exact Nat.lt_trans h2 (Nat.lt_of_lt_of_le (H.tl q hq).2.1 (fL_at (H.tl q hq).1 hb).1)
      · rw [List.mem_singleton.mp hb]
        exact Nat.lt_trans h2 H.wl
theorem rows_in {e : ER} (he : e ∈ rows ws t Ts Tl xw dw xl dl) : (∃ p ∈ Ts, e ∈ fW ws t xw p) ∨ e = rW ws t Ts xw dw ∨ (∃ p ∈ Tl, e ∈ fL ws t xl p) ∨ e = rL ws t Tl xl dl := by
  unfold rows at he
  rcases List.mem_append.mp he with h | h
  · exact .inl (List.mem_flatMap.mp h)
  · rcases List.mem_cons.mp h with h | h
    · exact .inr (.inl h)
    · rcases List.mem_append.mp h with h | h
      · exact .inr (.inr (.inl (List.mem_flatMap.mp h)))
      · exact .inr (.inr (.inr (List.mem_singleton.mp h)))
theorem in_rows {e : ER} (h : (∃ p ∈ Ts, e ∈ fW ws t xw p) ∨ e = rW ws t Ts xw dw ∨ (∃ p ∈ Tl, e ∈ fL ws t xl p) ∨ e = rL ws t Tl xl dl) : e ∈ rows ws t Ts Tl xw dw xl dl := by
  unfold rows
  rcases h with h | h | h | h
  · exact List.mem_append_left _ (List.mem_flatMap.mpr h)
  · exact List.mem_append_right _ (h ▸ .head _)
  · exact List.mem_append_right _ (.tail _ (List.mem_append_left _ (List.mem_flatMap.mpr h)))
  · exact List.mem_append_right _ (.tail _ (List.mem_append_right _ (List.mem_singleton.mpr h)))
theorem rows_dx (H : Lay Ts Tl xw dw xl dl) : ∀ e ∈ rows ws t Ts Tl xw dw xl dl, e.dx < e.x := fun e he => by
  rcases rows_in he with ⟨p, hp, h⟩ | rfl | ⟨p, hp, h⟩ | rfl
  · exact (fW_at (H.tw p hp).1 h).2.1
  · exact H.w
  · exact (fL_at (H.tl p hp).1 h).2.1
  · exact H.l
theorem rows_look (H : Lay Ts Tl xw dw xl dl) : ∀ e ∈ rows ws t Ts Tl xw dw xl dl, look (rows ws t Ts Tl xw dw xl dl) e.x = e := look_of ((ord_x (rows_ord H) (rows_dx H)).imp fun h => Nat.ne_of_lt h)
theorem len_flat {α β : Type} {f : α → List β} (h : ∀ a, (f a).length = 3) : ∀ l : List α, (l.flatMap f).length = 3 * l.length
  | [] => rfl
  | a :: l => by rw [List.flatMap_cons, List.length_append, h a, len_flat h l, List.length_cons]; omega
theorem rows_len : (rows ws t Ts Tl xw dw xl dl).length = 3 * Ts.length + (1 + (3 * Tl.length + 1)) := by
  unfold rows
  rw [List.length_append, List.length_cons, List.length_append, len_flat (fun _ => rfl), len_flat (fun _ => rfl), List.length_singleton]
  omega
end
end
section
theorem off_Gs : True := by
  w_top off
  exact True.intro
theorem unr_Gs {a b : Nat} (h : a < b) : a < b := h
local macro_rules | `(tactic| k_room) => `(tactic| ((try simp only [depth_under_make, depth_under_kw, depth_in1, depth_deeper, depth_caller]); (try dsimp only [ktrTop]); (try simp only [recursionLimit]); omega))
local macro_rules | `(tactic| k_units) => `(tactic| ((try simp only [units_in1, units_deeper, Around.mark_units, units_caller]); (try dsimp only [ktrTop]); (try simp only [cLine]); omega))
local macro_rules | `(tactic| k_enter) => `(tactic| (refine' code_def ?k1 ?k2 ?k3 ?k4 ?k5 ?kA ?kF ?kK ?k6 ?k7 ?k8 ?k9 ?kB ?_ ?c2 ?c3 ?c4 ?c5; (case kA => exact rfl); (case kF => exact rfl); (case kK => first | assumption | exact rfl); (case k1 => k_asm); (case k2 => k_asm); (case k3 => k_asm); (case k4 => k_asm); (case k5 => k_asm); (case k6 => k_is); (case k7 => k_is); (case k8 => k_room); (case k9 => first | exact BindsTo.of_eq rfl | exact binds_K (by k_in) rfl (by k_is) rfl rfl rfl | fail "k_enter: no rule for these arguments"); (case c5 => decide); (case kB => exact locs rfl); (case c2 => exact rfl); (case c3 => exact rfl); (case c4 => exact rfl); k_whole; intro g' L' h' FG' F' N' B' X' T'; (try dsimp only); (try k_lift B'); (try k_fold)))
local macro_rules | `(tactic| k_all) => `(tactic| (refine ne_of_below (by assumption) ?_; first | exact Nat.le_refl _ | omega))
local macro_rules | `(tactic| k_mem) => `(tactic| first | exact List.Mem.head _ | (refine List.Mem.tail _ ?_; k_mem) | assumption)
section
variable {ws : List Str} {t : Str} {den : Addr → Nat → Option Nat} {rk : Addr → Nat → Nat} {k n : Nat}
abbrev lawG (ws : List Str) (t : Str) (Ts Tl : List (TA × Str)) (xw dw xl dl : Addr) : Gram := gramOf (rows ws t Ts Tl xw dw xl dl) t
def GAt (es : List ER) (t : Str) (e : ER) : Prop := (gramOf es t).kind e.x = e.k ∧ (gramOf es t).den e.x = e.d ∧ (gramOf es t).rk e.x = e.r ∧ (gramOf es t).dx e.x = e.dx
theorem one_den : ∀ {Ts : List (TA × Str)}, (∀ p ∈ Ts, den p.1.s k = rowD ws t p.2 k) → oneDen den (Ts.map (fun p : TA × Str => p.1.s)) k = ((Ts.map (·.2)).find? (fits ws t k)).map fun w => k + w.length
  | [], _ => rfl
  | p :: Ts, h => by
    have ih := one_den (Ts := Ts) fun q hq => h q (.tail _ hq)
    rw [List.map_cons, List.map_cons, List.find?_cons]
    show (match den p.1.s k with | some q => some q | none => oneDen den (Ts.map (fun p : TA × Str => p.1.s)) k) = _
    rw [h p (.head _)]
    unfold rowD
    cases hf : fits ws t k p.2 with
    | true => rw [if_pos rfl]; rfl
    | false => rw [if_neg (by simp), ih]
theorem one_at {c : Addr} : ∀ {Ts : List (TA × Str)}, (∀ p ∈ Ts, den p.1.s k = rowD ws t p.2 k) → oneAt den (Ts.map (fun p : TA × Str => p.1.s)) k c → ∃ p ∈ Ts, c = p.1.s ∧ (Ts.map (·.2)).find? (fits ws t k) = some p.2
  | [], _, h => h.elim
  | p :: Ts, h, ha => by
    rw [List.map_cons] at ha
    rcases ha with ⟨rfl, hs⟩ | ⟨hn, ha⟩
    · refine ⟨p, .head _, rfl, ?_⟩
      rw [h p (.head _)] at hs
      unfold rowD at hs
      cases hf : fits ws t k p.2 with
      | true => rw [List.map_cons, List.find?_cons, hf]
      | false => rw [hf, if_neg (by simp)] at hs; cases hs
    · obtain ⟨q, hq, e1, e2⟩ := one_at (Ts := Ts) (fun q hq => h q (.tail _ hq)) ha
      refine ⟨q, .tail _ hq, e1, ?_⟩
      rw [h p (.head _)] at hn
      unfold rowD at hn
      cases hf : fits ws t k p.2 with
      | true => rw [hf, if_pos rfl] at hn; cases hn
      | false => rw [List.map_cons, List.find?_cons, hf]; exact e2
theorem seq_den : ∀ {Ts : List (TA × Str)}, (∀ p ∈ Ts, den p.1.n k = if fits ws t k p.2 then none else some k) → seqDen den (Ts.map (fun p : TA × Str => p.1.n)) k = if ((Ts.map (·.2)).find? (fits ws t k)).isSome then none else some k
  | [], _ => rfl
  | p :: Ts, h => by
    have ih := seq_den (Ts := Ts) fun q hq => h q (.tail _ hq)
    rw [List.map_cons, List.map_cons, List.find?_cons]
    show (match den p.1.n k with | none => none | some q => seqDen den (Ts.map (fun p : TA × Str => p.1.n)) q) = _
    rw [h p (.head _)]
    cases hf : fits ws t k p.2 with
    | true => rw [if_pos rfl]; rfl
    | false => rw [if_neg (by simp)]; exact ih
theorem seq_rk : ∀ {Ts : List (TA × Str)}, (∀ p ∈ Ts, den p.1.n k = if fits ws t k p.2 then none else some k) → (∀ p ∈ Ts, rk p.1.n k < n) → seqRk den rk n (Ts.map (fun p : TA × Str => p.1.n)) k
  | [], _, _ => trivial
  | p :: Ts, h, hr => by
    rw [List.map_cons]
    refine ⟨hr p (.head _), ?_⟩
    rw [h p (.head _)]
    cases hf : fits ws t k p.2 with
    | true => rw [if_pos rfl]; trivial
    | false => rw [if_neg (by simp)]; exact seq_rk (fun q hq => h q (.tail _ hq)) fun q hq => hr q (.tail _ hq)
end
section
variable {ws : List Str} {t : Str} {Ts Tl : List (TA × Str)} {xw dw xl dl : Addr}
theorem g_at (H : Lay Ts Tl xw dw xl dl) {e : ER} (he : e ∈ rows ws t Ts Tl xw dw xl dl) : GAt (rows ws t Ts Tl xw dw xl dl) t e := by
  have h := rows_look (ws := ws) (t := t) H e he
  exact ⟨congrArg ER.k h, congrArg ER.d h, congrArg ER.r h, congrArg ER.dx h⟩
theorem w_lit (H : Lay Ts Tl xw dw xl dl) {p : TA × Str} (hp : p ∈ Ts) : GAt (rows ws t Ts Tl xw dw xl dl) t (eLit t p.2 p.1) := g_at (ws := ws) (t := t) H (e := eLit t p.2 p.1) (in_rows (.inl ⟨p, hp, .head _⟩))
theorem w_n (H : Lay Ts Tl xw dw xl dl) {p : TA × Str} (hp : p ∈ Ts) : GAt (rows ws t Ts Tl xw dw xl dl) t (⟨p.1.n, .neg xw, isW ws t, fun k => 4 * (t.length - k) + 4, p.1.nd⟩) := g_at (ws := ws) (t := t) H (e := ⟨p.1.n, .neg xw, isW ws t, fun k => 4 * (t.length - k) + 4, p.1.nd⟩) (in_rows (.inl ⟨p, hp, .tail _ (.head _)⟩))
theorem w_s (H : Lay Ts Tl xw dw xl dl) {p : TA × Str} (hp : p ∈ Ts) : GAt (rows ws t Ts Tl xw dw xl dl) t (⟨p.1.s, .seq [p.1.lit, p.1.n], rowD ws t p.2, fun k => 4 * (t.length - k) + 2, p.1.sd⟩) := g_at (ws := ws) (t := t) H (e := ⟨p.1.s, .seq [p.1.lit, p.1.n], rowD ws t p.2, fun k => 4 * (t.length - k) + 2, p.1.sd⟩) (in_rows (.inl ⟨p, hp, .tail _ (.tail _ (.head _))⟩))
theorem w_r (H : Lay Ts Tl xw dw xl dl) : GAt (rows ws t Ts Tl xw dw xl dl) t (rW ws t Ts xw dw) := g_at (ws := ws) (t := t) H (e := rW ws t Ts xw dw) (in_rows (.inr (.inl rfl)))
theorem l_lit (H : Lay Ts Tl xw dw xl dl) {p : TA × Str} (hp : p ∈ Tl) : GAt (rows ws t Ts Tl xw dw xl dl) t (eLit t p.2 p.1) := g_at (ws := ws) (t := t) H (e := eLit t p.2 p.1) (in_rows (.inr (.inr (.inl ⟨p, hp, .head _⟩))))
theorem l_s (H : Lay Ts Tl xw dw xl dl) {p : TA × Str} (hp : p ∈ Tl) : GAt (rows ws t Ts Tl xw dw xl dl) t (⟨p.1.s, .seq [p.1.lit, xl], rowD ws t p.2, fun k => 4 * (t.length - k) + 1, p.1.sd⟩) := g_at (ws := ws) (t := t) H (e := ⟨p.1.s, .seq [p.1.lit, xl], rowD ws t p.2, fun k => 4 * (t.length - k) + 1, p.1.sd⟩) (in_rows (.inr (.inr (.inl ⟨p, hp, .tail _ (.head _)⟩))))
theorem l_n (H : Lay Ts Tl xw dw xl dl) {p : TA × Str} (hp : p ∈ Tl) : GAt (rows ws t Ts Tl xw dw xl dl) t (⟨p.1.n, .neg p.1.s, fun k => if fits ws t k p.2 then none else some k, fun k => 4 * (t.length - k) + 2, p.1.nd⟩) := g_at (ws := ws) (t := t) H (e := ⟨p.1.n, .neg p.1.s, fun k => if fits ws t k p.2 then none else some k, fun k => 4 * (t.length - k) + 2, p.1.nd⟩) (in_rows (.inr (.inr (.inl ⟨p, hp, .tail _ (.tail _ (.head _))⟩))))
theorem l_r (H : Lay Ts Tl xw dw xl dl) : GAt (rows ws t Ts Tl xw dw xl dl) t (rL ws t Tl xl dl) := g_at (ws := ws) (t := t) H (e := rL ws t Tl xl dl) (in_rows (.inr (.inr (.inr rfl))))
theorem isW_is {p q : Nat} (h : isW ws t p = some q) : q = p := by
  unfold isW at h
  split at h
  · cases h
  · exact (Option.some.inj h).symm
theorem rowD_is {wd : Str} {p q : Nat} (h : rowD ws t wd p = some q) : q = p + wd.length ∧ q ≤ t.length := by
  unfold rowD at h
  split at h
  · rename_i hf
    have := fits_le hf
    exact ⟨(Option.some.inj h).symm, Option.some.inj h ▸ this⟩
  · cases h
theorem law_ok (H : Lay Ts Tl xw dw xl dl) (hw : Ts.map (·.2) = ws) (hl : Tl.map (·.2) = ws) (h1 : 1 ≤ ws.length) (h3 : ws.length ≤ 3) (hp1 : ∀ w ∈ ws, 1 ≤ w.length ∧ w.length ≤ 3) (ht : t.length ≤ 8) : (lawG ws t Ts Tl xw dw xl dl).Ok := by
  have hpos : ∀ w ∈ ws, 1 ≤ w.length := fun w h => (hp1 w h).1
  have hTs : Ts.length = ws.length := by rw [← hw, List.length_map]
  have hTl : Tl.length = ws.length := by rw [← hl, List.length_map]
  have inw : ∀ p ∈ Ts, 1 ≤ p.2.length ∧ p.2.length ≤ 3 := fun p hp => hp1 _ (hw ▸ List.mem_map_of_mem hp)
  have inl : ∀ p ∈ Tl, 1 ≤ p.2.length ∧ p.2.length ≤ 3 := fun p hp => hp1 _ (hl ▸ List.mem_map_of_mem hp)
  have fwW : ∀ k, fw ws t k = (Ts.map (·.2)).find? (fits ws t k) := fun k => by rw [hw]; exact fw_eq hpos k
  have fwL : ∀ k, fw ws t k = (Tl.map (·.2)).find? (fits ws t k) := fun k => by rw [hl]; exact fw_eq hpos k
  refine gramOf_ok (rows_ord H) (rows_dx H) ?_ (by omega) ?_ ?_ ?_ ?_
  · rw [rows_len]; omega
  · intro e he m hm
    rcases rows_in he with ⟨p, hp, h⟩ | rfl | ⟨p, hp, h⟩ | rfl
    · simp only [fW, List.mem_cons, List.not_mem_nil, or_false] at h
      rcases h with rfl | rfl | rfl
      · exact nomatch hm
      · rw [List.mem_singleton.mp hm]
        exact ⟨_, in_rows (.inr (.inl rfl)), rfl⟩
      · rcases List.mem_cons.mp hm with rfl | hm
        · exact ⟨_, in_rows (.inl ⟨p, hp, .head _⟩), rfl⟩
        · rw [List.mem_singleton.mp hm]
          exact ⟨_, in_rows (.inl ⟨p, hp, .tail _ (.head _)⟩), rfl⟩
    · obtain ⟨p, hp, rfl⟩ := List.mem_map.mp hm
      exact ⟨_, in_rows (.inl ⟨p, hp, .tail _ (.tail _ (.head _))⟩), rfl⟩
    · simp only [fL, List.mem_cons, List.not_mem_nil, or_false] at h
      rcases h with rfl | rfl | rfl
      · exact nomatch hm
      · rcases List.mem_cons.mp hm with rfl | hm
        · exact ⟨_, in_rows (.inr (.inr (.inl ⟨p, hp, .head _⟩))), rfl⟩
        · rw [List.mem_singleton.mp hm]
          exact ⟨_, in_rows (.inr (.inr (.inr rfl))), rfl⟩
      · rw [List.mem_singleton.mp hm]
        exact ⟨_, in_rows (.inr (.inr (.inl ⟨p, hp, .tail _ (.head _)⟩))), rfl⟩
    · obtain ⟨p, hp, rfl⟩ := List.mem_map.mp hm
      exact ⟨_, in_rows (.inr (.inr (.inl ⟨p, hp, .tail _ (.tail _ (.head _))⟩))), rfl⟩
  · intro e he p q hp h
    rcases rows_in he with ⟨pp, hpp, hh⟩ | rfl | ⟨pp, hpp, hh⟩ | rfl
    · simp only [fW, List.mem_cons, List.not_mem_nil, or_false] at hh
      rcases hh with rfl | rfl | rfl
      · have h' : (if Txt.startswith3 t pp.2 (p : Int) then some (p + pp.2.length) else none) = some q := h
        split at h'
        · rename_i hs
          have := sw_le hs
          injection h' with h'
          omega
        · cases h'
      · have := isW_is (show isW ws t p = some q from h); omega
      · have := rowD_is (show rowD ws t pp.2 p = some q from h); omega
    · have h' : (fw ws t p).map (fun w => p + w.length) = some q := h
      cases e1 : fw ws t p with
      | none => rw [e1] at h'; cases h'
      | some w =>
        rw [e1] at h'
        injection h' with h'
        have h'' : p + w.length = q := h'
        have := fits_le (fw_mem hpos e1).2
        omega
    · simp only [fL, List.mem_cons, List.not_mem_nil, or_false] at hh
      rcases hh with rfl | rfl | rfl
      · have h' : (if Txt.startswith3 t pp.2 (p : Int) then some (p + pp.2.length) else none) = some q := h
        split at h'
        · rename_i hs
          have := sw_le hs
          injection h' with h'
          omega
        · cases h'
      · have := rowD_is (show rowD ws t pp.2 p = some q from h); omega
      · have h' : (if fits ws t p pp.2 then none else some p) = some q := h
        split at h'
        · cases h'
        · injection h' with h'; omega
    · have := isW_is (show isW ws t p = some q from h); omega
  · intro e he p hp
    rcases rows_in he with ⟨pp, hpp, hh⟩ | rfl | ⟨pp, hpp, hh⟩ | rfl
    · simp only [fW, List.mem_cons, List.not_mem_nil, or_false] at hh
      rcases hh with rfl | rfl | rfl
      · exact Nat.zero_le _
      · show 4 * (t.length - p) + 4 ≤ 60; omega
      · show 4 * (t.length - p) + 2 ≤ 60; omega
    · show 4 * (t.length - p) + 3 ≤ 60; omega
    · simp only [fL, List.mem_cons, List.not_mem_nil, or_false] at hh
      rcases hh with rfl | rfl | rfl
      · exact Nat.zero_le _
      · show 4 * (t.length - p) + 1 ≤ 60; omega
      · show 4 * (t.length - p) + 2 ≤ 60; omega
    · show 4 * (t.length - p) + 3 ≤ 60; omega
  · intro e he p hp
    rcases rows_in he with ⟨pp, hpp, hh⟩ | rfl | ⟨pp, hpp, hh⟩ | rfl
    · have i1 := inw pp hpp
      simp only [fW, List.mem_cons, List.not_mem_nil, or_false] at hh
      rcases hh with rfl | rfl | rfl
      · exact ⟨by omega, rfl⟩
      · obtain ⟨_, r2, r3, _⟩ := w_r (ws := ws) (t := t) H
        have r2' : (lawG ws t Ts Tl xw dw xl dl).den xw p = (fw ws t p).map fun w => p + w.length := congrFun r2 p
        have r3' : (lawG ws t Ts Tl xw dw xl dl).rk xw p = 4 * (t.length - p) + 3 := congrFun r3 p
        show isW ws t p = (match (lawG ws t Ts Tl xw dw xl dl).den xw p with | none => some p | some _ => none) ∧ (lawG ws t Ts Tl xw dw xl dl).rk xw p < 4 * (t.length - p) + 4
        rw [r2', r3']
        refine ⟨?_, by omega⟩
        unfold isW
        cases fw ws t p <;> rfl
      · obtain ⟨_, a2, a3, _⟩ := w_lit (ws := ws) (t := t) H hpp
        obtain ⟨_, b2, b3, _⟩ := w_n (ws := ws) (t := t) H hpp
        have a2' : (lawG ws t Ts Tl xw dw xl dl).den pp.1.lit p = if Txt.startswith3 t pp.2 (p : Int) then some (p + pp.2.length) else none := congrFun a2 p
        have a3' : (lawG ws t Ts Tl xw dw xl dl).rk pp.1.lit p = 0 := congrFun a3 p
        have b2' : ∀ k, (lawG ws t Ts Tl xw dw xl dl).den pp.1.n k = isW ws t k := fun k => congrFun b2 k
        have b3' : ∀ k, (lawG ws t Ts Tl xw dw xl dl).rk pp.1.n k = 4 * (t.length - k) + 4 := fun k => congrFun b3 k
        refine ⟨by simp, by simp, ?_, ?_⟩
        · show rowD ws t pp.2 p = (match (lawG ws t Ts Tl xw dw xl dl).den pp.1.lit p with | none => none | some q => match (lawG ws t Ts Tl xw dw xl dl).den pp.1.n q with | none => none | some q => some q)
          rw [a2']
          unfold rowD fits
          cases hs : Txt.startswith3 t pp.2 (p : Int) with
          | false => rfl
          | true =>
            rw [if_pos rfl]
            dsimp only
            rw [b2', Bool.true_and]
            unfold isW
            cases fw ws t (p + pp.2.length) <;> rfl
        · show (lawG ws t Ts Tl xw dw xl dl).rk pp.1.lit p < 4 * (t.length - p) + 2 ∧ match (lawG ws t Ts Tl xw dw xl dl).den pp.1.lit p with | none => True | some q => (lawG ws t Ts Tl xw dw xl dl).rk pp.1.n q < 4 * (t.length - p) + 2 ∧ match (lawG ws t Ts Tl xw dw xl dl).den pp.1.n q with | none => True | some _ => True
          rw [a2', a3']
          refine ⟨by omega, ?_⟩
          cases hs : Txt.startswith3 t pp.2 (p : Int) with
          | false => trivial
          | true =>
            rw [if_pos rfl]
            dsimp only
            have := sw_le hs
            refine ⟨by rw [b3']; omega, ?_⟩
            cases (lawG ws t Ts Tl xw dw xl dl).den pp.1.n (p + pp.2.length) <;> trivial
    · refine ⟨by rw [List.length_map]; omega, ?_, ?_⟩
      · show (fw ws t p).map (fun w => p + w.length) = _
        rw [one_den fun q hq => congrFun (w_s (ws := ws) (t := t) H hq).2.1 p, fwW]
      · intro m hm
        obtain ⟨q, hq, rfl⟩ := List.mem_map.mp hm
        have r3' : (lawG ws t Ts Tl xw dw xl dl).rk q.1.s p = 4 * (t.length - p) + 2 := congrFun (w_s (ws := ws) (t := t) H hq).2.2.1 p
        rw [r3']
        show 4 * (t.length - p) + 2 < 4 * (t.length - p) + 3
        omega
    · have i1 := inl pp hpp
      simp only [fL, List.mem_cons, List.not_mem_nil, or_false] at hh
      rcases hh with rfl | rfl | rfl
      · exact ⟨by omega, rfl⟩
      · obtain ⟨_, a2, a3, _⟩ := l_lit (ws := ws) (t := t) H hpp
        obtain ⟨_, b2, b3, _⟩ := l_r (ws := ws) (t := t) H
        have a2' : (lawG ws t Ts Tl xw dw xl dl).den pp.1.lit p = if Txt.startswith3 t pp.2 (p : Int) then some (p + pp.2.length) else none := congrFun a2 p
        have a3' : (lawG ws t Ts Tl xw dw xl dl).rk pp.1.lit p = 0 := congrFun a3 p
        have b2' : ∀ k, (lawG ws t Ts Tl xw dw xl dl).den xl k = isW ws t k := fun k => congrFun b2 k
        have b3' : ∀ k, (lawG ws t Ts Tl xw dw xl dl).rk xl k = 4 * (t.length - k) + 3 := fun k => congrFun b3 k
        refine ⟨by simp, by simp, ?_, ?_⟩
        · show rowD ws t pp.2 p = (match (lawG ws t Ts Tl xw dw xl dl).den pp.1.lit p with | none => none | some q => match (lawG ws t Ts Tl xw dw xl dl).den xl q with | none => none | some q => some q)
          rw [a2']
          unfold rowD fits
          cases hs : Txt.startswith3 t pp.2 (p : Int) with
          | false => rfl
          | true =>
            rw [if_pos rfl]
            dsimp only
            rw [b2', Bool.true_and]
            unfold isW
            cases fw ws t (p + pp.2.length) <;> rfl
        · show (lawG ws t Ts Tl xw dw xl dl).rk pp.1.lit p < 4 * (t.length - p) + 1 ∧ match (lawG ws t Ts Tl xw dw xl dl).den pp.1.lit p with | none => True | some q => (lawG ws t Ts Tl xw dw xl dl).rk xl q < 4 * (t.length - p) + 1 ∧ match (lawG ws t Ts Tl xw dw xl dl).den xl q with | none => True | some _ => True
          rw [a2', a3']
          refine ⟨by omega, ?_⟩
          cases hs : Txt.startswith3 t pp.2 (p : Int) with
          | false => trivial
          | true =>
            rw [if_pos rfl]
            dsimp only
            have := sw_le hs
            refine ⟨by rw [b3']; omega, ?_⟩
            cases (lawG ws t Ts Tl xw dw xl dl).den xl (p + pp.2.length) <;> trivial
      · obtain ⟨_, a2, a3, _⟩ := l_s (ws := ws) (t := t) H hpp
        have a2' : (lawG ws t Ts Tl xw dw xl dl).den pp.1.s p = rowD ws t pp.2 p := congrFun a2 p
        have a3' : (lawG ws t Ts Tl xw dw xl dl).rk pp.1.s p = 4 * (t.length - p) + 1 := congrFun a3 p
        show (if fits ws t p pp.2 then none else some p) = (match (lawG ws t Ts Tl xw dw xl dl).den pp.1.s p with | none => some p | some _ => none) ∧ (lawG ws t Ts Tl xw dw xl dl).rk pp.1.s p < 4 * (t.length - p) + 2
        rw [a2', a3']
        refine ⟨?_, by omega⟩
        unfold rowD
        cases fits ws t p pp.2 <;> rfl
    · refine ⟨?_, by rw [List.length_map]; omega, ?_, ?_⟩
      · intro h
        have := congrArg List.length h
        rw [List.length_map] at this
        simp at this
        rw [this] at hTl
        simp at hTl
        omega
      · show isW ws t p = _
        rw [seq_den fun q hq => congrFun (l_n (ws := ws) (t := t) H hq).2.1 p, ← fwL]
        rfl
      · refine seq_rk (ws := ws) (t := t) (fun q hq => congrFun (l_n (ws := ws) (t := t) H hq).2.1 p) fun q hq => ?_
        have r3' : (lawG ws t Ts Tl xw dw xl dl).rk q.1.n p = 4 * (t.length - p) + 2 := congrFun (l_n (ws := ws) (t := t) H hq).2.2.1 p
        rw [r3']
        show 4 * (t.length - p) + 2 < 4 * (t.length - p) + 3
        omega
end
section
variable {ws : List Str} {t : Str} {Ts Tl : List (TA × Str)} {xw dw xl dl : Addr}
theorem law_xw (H : Lay Ts Tl xw dw xl dl) : xw ∈ (lawG ws t Ts Tl xw dw xl dl).xs := List.mem_map.mpr ⟨rW ws t Ts xw dw, in_rows (.inr (.inl rfl)), rfl⟩
theorem law_xl (H : Lay Ts Tl xw dw xl dl) : xl ∈ (lawG ws t Ts Tl xw dw xl dl).xs := List.mem_map.mpr ⟨rL ws t Tl xl dl, in_rows (.inr (.inr (.inr rfl))), rfl⟩
theorem law_stt (H : Lay Ts Tl xw dw xl dl) {nmw nml : Str} (hn : nmw.length ≤ 100) (hm : nml.length ≤ 100) {l : Led} (hW : RtDn true nmw xw dw Ts l) (hL : RtDn false nml xl dl Tl l) : Stt (lawG ws t Ts Tl xw dw xl dl) 0 l := by
  have key : ∀ e ∈ rows ws t Ts Tl xw dw xl dl, (match e.k with
      | .lit wd => ∃ tw, ∃ nm : Short, ∃ nt idt, (e.x, (⟨.ref 367, some e.dx, .plain, #[some (.str wd tw), some idt, some (.str nm.1 nt)]⟩ : Obj)) ∈ l
      | .seq ms => ∃ t k, ∃ nm : Short, ∃ nt idt, (e.x, (⟨.ref 425, some e.dx, .plain, #[some (.ref t), some idt, some (.str nm.1 nt)]⟩ : Obj)) ∈ l ∧ (t, tupO (ms.map .ref) k) ∈ l
      | .one ms => ∃ t k, ∃ nm : Short, ∃ nt idt, (e.x, (⟨.ref 451, some e.dx, .plain, #[some (.ref t), some idt, some (.str nm.1 nt)]⟩ : Obj)) ∈ l ∧ (t, tupO (ms.map .ref) k) ∈ l
      | .neg m => ∃ t k, ∃ nm : Short, ∃ nt idt, (e.x, (⟨.ref 489, some e.dx, .plain, #[some (.bool true), some (.ref t), some idt, some (.str nm.1 nt)]⟩ : Obj)) ∈ l ∧ (t, tupO [.ref m] k) ∈ l) ∧ (e.dx, dictOf [] 0) ∈ l := by
    intro e he
    have he0 : (eS : Str).length ≤ 100 := by decide
    rcases rows_in he with ⟨p, hp, h⟩ | rfl | ⟨p, hp, h⟩ | rfl
    · obtain ⟨d1, d2, d3⟩ := hW.ds p hp
      simp only [fW, List.mem_cons, List.not_mem_nil, or_false] at h
      rcases h with rfl | rfl | rfl
      · exact ⟨⟨_, ⟨eS, he0⟩, _, _, hW.lit p hp⟩, d1⟩
      · obtain ⟨t, k, h1, h2⟩ := (hW.tr p hp).n
        exact ⟨⟨t, k, ⟨eS, he0⟩, _, _, h1, h2⟩, d2⟩
      · obtain ⟨t, k, h1, h2⟩ := (hW.tr p hp).s
        exact ⟨⟨t, k, ⟨eS, he0⟩, _, _, h1, h2⟩, d3⟩
    · obtain ⟨t, k, rid, rnt, h1, h2⟩ := hW.rt
      refine ⟨⟨t, k, ⟨nmw, hn⟩, rnt, rid, h1, ?_⟩, hW.rd⟩
      rw [List.map_map]
      exact h2
    · obtain ⟨d1, d2, d3⟩ := hL.ds p hp
      simp only [fL, List.mem_cons, List.not_mem_nil, or_false] at h
      rcases h with rfl | rfl | rfl
      · exact ⟨⟨_, ⟨eS, he0⟩, _, _, hL.lit p hp⟩, d1⟩
      · obtain ⟨t, k, h1, h2⟩ := (hL.tr p hp).s
        exact ⟨⟨t, k, ⟨eS, he0⟩, _, _, h1, h2⟩, d3⟩
      · obtain ⟨t, k, h1, h2⟩ := (hL.tr p hp).n
        exact ⟨⟨t, k, ⟨eS, he0⟩, _, _, h1, h2⟩, d2⟩
    · obtain ⟨t, k, rid, rnt, h1, h2⟩ := hL.rt
      refine ⟨⟨t, k, ⟨nml, hm⟩, rnt, rid, h1, ?_⟩, hL.rd⟩
      rw [List.map_map]
      exact h2
  refine ⟨fun x hx => ?_, fun x hx => ?_⟩
  · obtain ⟨e, he, rfl⟩ := List.mem_map.mp hx
    obtain ⟨g1, _, _, g4⟩ := g_at (ws := ws) (t := t) H he
    unfold ExprAt
    rw [g1, g4]
    exact (key e he).1
  · obtain ⟨e, he, rfl⟩ := List.mem_map.mp hx
    obtain ⟨_, _, _, g4⟩ := g_at (ws := ws) (t := t) H he
    rw [g4]
    exact ⟨[], .inl ⟨rfl, 0, (key e he).2⟩, fun _ h => (nomatch h), Nat.le_refl _⟩
theorem den_w (H : Lay Ts Tl xw dw xl dl) (p : Nat) : (lawG ws t Ts Tl xw dw xl dl).den xw p = (fw ws t p).map fun w => p + w.length := congrFun (w_r (ws := ws) (t := t) H).2.1 p
theorem den_l (H : Lay Ts Tl xw dw xl dl) (p : Nat) : (lawG ws t Ts Tl xw dw xl dl).den xl p = if (fw ws t p).isSome then none else some p := congrFun (l_r (ws := ws) (t := t) H).2.1 p
/-- the node that wins gives: its first child's first child spans the word -/
theorem won_node (H : Lay Ts Tl xw dw xl dl) (hw : Ts.map (·.2) = ws) (hpos : ∀ w ∈ ws, 1 ≤ w.length) {Mu : List Addr} {l : Led} {nd : Addr} {p q : Nat} (h : N2 (lawG ws t Ts Tl xw dw xl dl) Mu l nd xw p q) :
    ∃ wd nc c r1 nl lt r2 r3, fw ws t p = some wd ∧ NodeB Mu l nd xw t p q (.ref nc :: r1) ∧ NodeB Mu l nc c t p q (.ref nl :: r2) ∧ NodeB Mu l nl lt t p ((p + wd.length : Nat) : Int) r3 := by
  obtain ⟨items, hB, _, h2⟩ := h
  obtain ⟨nc, c, r1, rfl, ha, hd, items2, hB2, h3⟩ := h2 _ (w_r (ws := ws) (t := t) H).1
  obtain ⟨pp, hpp, rfl, hf⟩ := one_at (ws := ws) (t := t) (fun q hq => congrFun (w_s (ws := ws) (t := t) H hq).2.1 p) ha
  obtain ⟨nl, q1, r2, rfl, e1, r3, hB3⟩ := h3 _ _ (w_s (ws := ws) (t := t) H hpp).1
  have e2 : (if Txt.startswith3 t pp.2 (p : Int) then some (p + pp.2.length) else none) = some q1 := (congrFun (w_lit (ws := ws) (t := t) H hpp).2.1 p).symm.trans e1
  have e3 : q1 = p + pp.2.length := by
    split at e2
    · exact (Option.some.inj e2).symm
    · cases e2
  rw [hw, ← fw_eq hpos] at hf
  subst e3
  exact ⟨pp.2, nc, _, r1, nl, _, r2, r3, hf, hB, hB2, hB3⟩
theorem dxs_gt {c : Addr} (H : Lay Ts Tl xw dw xl dl) (h1 : ∀ p ∈ Ts, c < p.1.ld) (h2 : c < dw) : ∀ d ∈ (lawG ws t Ts Tl xw dw xl dl).dxs, c < d := fun d hd => by
  obtain ⟨x, hx, rfl⟩ := List.mem_map.mp hd
  obtain ⟨e, he, rfl⟩ := List.mem_map.mp hx
  rw [(g_at (ws := ws) (t := t) H he).2.2.2]
  have h3 := Nat.lt_trans h2 H.w
  rcases rows_in he with ⟨p, hp, h⟩ | rfl | ⟨p, hp, h⟩ | rfl
  · exact Nat.lt_of_lt_of_le (h1 p hp) (fW_at (H.tw p hp).1 h).1
  · exact h2
  · exact Nat.lt_of_lt_of_le (Nat.lt_trans h3 (H.tl p hp).2.1) (fL_at (H.tl p hp).1 h).1
  · exact Nat.lt_trans h3 H.wl
theorem dxs_in {B : Nat} {l : Led} (S : Stt (lawG ws t Ts Tl xw dw xl dl) B l) : ∀ d ∈ (lawG ws t Ts Tl xw dw xl dl).dxs, ∃ o, (d, o) ∈ l ∧ o.cls = dT := fun d hd => by
  obtain ⟨x, hx, rfl⟩ := List.mem_map.mp hd
  exact S.dxin hx
end
end
section
theorem off_St : True := by
  w_top off
  exact True.intro
theorem unr_St {a b : Nat} (h : a < b) : a < b := h
local macro_rules | `(tactic| k_room) => `(tactic| ((try simp only [depth_under_make, depth_under_kw, depth_in1, depth_deeper, depth_caller]); (try dsimp only [ktrTop]); (try simp only [recursionLimit]); omega))
local macro_rules | `(tactic| k_units) => `(tactic| ((try simp only [units_in1, units_deeper, Around.mark_units, units_caller]); (try dsimp only [ktrTop]); (try simp only [cLine]); omega))
local macro_rules | `(tactic| k_enter) => `(tactic| (refine' code_def ?k1 ?k2 ?k3 ?k4 ?k5 ?kA ?kF ?kK ?k6 ?k7 ?k8 ?k9 ?kB ?_ ?c2 ?c3 ?c4 ?c5; (case kA => exact rfl); (case kF => exact rfl); (case kK => first | assumption | exact rfl); (case k1 => k_asm); (case k2 => k_asm); (case k3 => k_asm); (case k4 => k_asm); (case k5 => k_asm); (case k6 => k_is); (case k7 => k_is); (case k8 => k_room); (case k9 => first | exact BindsTo.of_eq rfl | exact binds_K (by k_in) rfl (by k_is) rfl rfl rfl | fail "k_enter: no rule for these arguments"); (case c5 => decide); (case kB => exact locs rfl); (case c2 => exact rfl); (case c3 => exact rfl); (case c4 => exact rfl); k_whole; intro g' L' h' FG' F' N' B' X' T'; (try dsimp only); (try k_lift B'); (try k_fold)))
local macro_rules | `(tactic| k_all) => `(tactic| (refine ne_of_below (by assumption) ?_; first | exact Nat.le_refl _ | omega))
local macro_rules | `(tactic| k_mem) => `(tactic| first | exact List.Mem.head _ | (refine List.Mem.tail _ ?_; k_mem) | assumption)
def NoCell (o : Obj) : Prop := ∀ v, o.data ≠ .cell v
theorem ExprAt.nc {G : Gram} {n n' : Led} {x : Addr} (h : ExprAt G n x) (s : ∀ z ∈ n, NoCell z.2 → z ∈ n') : ExprAt G n' x := by
  unfold ExprAt at h ⊢
  cases e : G.kind x with
  | lit wd =>
    rw [e] at h
    obtain ⟨a, b, c, d, h1⟩ := h
    exact ⟨a, b, c, d, s _ h1 (fun v q => nomatch q)⟩
  | seq ms =>
    rw [e] at h
    obtain ⟨t, k, b, c, d, h1, h2⟩ := h
    exact ⟨t, k, b, c, d, s _ h1 (fun v q => nomatch q), s _ h2 (fun v q => nomatch q)⟩
  | one ms =>
    rw [e] at h
    obtain ⟨t, k, b, c, d, h1, h2⟩ := h
    exact ⟨t, k, b, c, d, s _ h1 (fun v q => nomatch q), s _ h2 (fun v q => nomatch q)⟩
  | neg m =>
    rw [e] at h
    obtain ⟨t, k, b, c, d, h1, h2⟩ := h
    exact ⟨t, k, b, c, d, s _ h1 (fun v q => nomatch q), s _ h2 (fun v q => nomatch q)⟩
theorem OidsAt.nc {n n' : Led} {d : Addr} {prs : Prs} (h : OidsAt n d prs) (s : ∀ z ∈ n, NoCell z.2 → z ∈ n') : OidsAt n' d prs := by
  rcases h with ⟨e, k, h1⟩ | ⟨hs, tk, t, k, m, h1, h2, h3⟩
  · exact .inl ⟨e, k, s _ h1 (fun v q => nomatch q)⟩
  · refine .inr ⟨hs, tk, t, k, m, s _ h1 (fun v q => nomatch q), s _ h2 (fun v q => nomatch q), fun p hp => ?_⟩
    obtain ⟨a, b, h4⟩ := h3 p hp
    exact ⟨a, b, s _ h4 (fun v q => nomatch q)⟩
/-- a cell is written -/
theorem Stt.cell {G : Gram} {B : Nat} {n n' : Led} {c : Addr} {o : Obj} {v0 v1 : Option Value} (h : Stt G B n) (hf : ∀ a o o', (a, o) ∈ n → (a, o') ∈ n → o = o') (hc : (c, o) ∈ n) (hd : o.data = .cell v0) (k : ∀ z ∈ n, z.1 ≠ c → z ∈ n') (hc' : (c, ({ o with data := .cell v1 } : Obj)) ∈ n') : Stt G B n' := by
  have s : ∀ z ∈ n, NoCell z.2 → z ∈ n' := fun z hz hn => k z hz fun e => by
    obtain ⟨a, oz⟩ := z
    have e' : a = c := e
    subst e'
    exact hn v0 (hf _ _ _ hz hc ▸ hd)
  refine ⟨fun x hx => (h.expr x hx).nc s, fun x hx => ?_⟩
  obtain ⟨prs, h1, h2, h3⟩ := h.oids x hx
  refine ⟨prs, h1.nc s, h2.of fun z hz hcl => ?_, h3⟩
  by_cases e : z.1 = c
  · obtain ⟨a, oz⟩ := z
    have e' : a = c := e
    subst e'
    have e2 := hf _ _ _ hz hc
    refine ⟨_, hc', ?_⟩
    have hcl' : oz.cls = dT := hcl
    rw [e2] at hcl'
    exact hcl'
  · exact ⟨_, k z hz e, hcl⟩
end
section
theorem off_Lj : True := by
  w_top off
  exact True.intro
theorem unr_Lj {a b : Nat} (h : a < b) : a < b := h
local macro_rules | `(tactic| k_room) => `(tactic| ((try simp only [depth_under_make, depth_under_kw, depth_in1, depth_deeper, depth_caller]); (try dsimp only [ktrTop]); (try simp only [recursionLimit]); omega))
local macro_rules | `(tactic| k_units) => `(tactic| ((try simp only [units_in1, units_deeper, Around.mark_units, units_caller]); (try dsimp only [ktrTop]); (try simp only [cLine]); omega))
local macro_rules | `(tactic| k_enter) => `(tactic| (refine' code_def ?k1 ?k2 ?k3 ?k4 ?k5 ?kA ?kF ?kK ?k6 ?k7 ?k8 ?k9 ?kB ?_ ?c2 ?c3 ?c4 ?c5; (case kA => exact rfl); (case kF => exact rfl); (case kK => first | assumption | exact rfl); (case k1 => k_asm); (case k2 => k_asm); (case k3 => k_asm); (case k4 => k_asm); (case k5 => k_asm); (case k6 => k_is); (case k7 => k_is); (case k8 => k_room); (case k9 => first | exact BindsTo.of_eq rfl | exact binds_K (by k_in) rfl (by k_is) rfl rfl rfl | fail "k_enter: no rule for these arguments"); (case c5 => decide); (case kB => exact locs rfl); (case c2 => exact rfl); (case c3 => exact rfl); (case c4 => exact rfl); k_whole; intro g' L' h' FG' F' N' B' X' T'; (try dsimp only); (try k_lift B'); (try k_fold)))
local macro_rules | `(tactic| k_all) => `(tactic| (refine ne_of_below (by assumption) ?_; first | exact Nat.le_refl _ | omega))
local macro_rules | `(tactic| k_mem) => `(tactic| first | exact List.Mem.head _ | (refine List.Mem.tail _ ?_; k_mem) | assumption)
/-- what stands while the law's loop runs: f: what the list of words holds, B: how many matches there were at most -/
structure LJ (G : Gram) (a2 : Addr) (o2 : Obj) (a3 : Addr) (o3 : Obj) (Df D1 : Addr) (oW o8 o7 : Obj) (f : Nat → Str) (B : Nat) (l : Led) : Prop where
  stt : Stt G B l
  fst : ∃ (its : List Value) (kk : Nat), (Df, W.listOf its.toArray kk) ∈ l ∧ its.length = G.text.length + 1 ∧ ∀ j, j < its.length → ∃ tk, its[j]? = some (.str (f j) tk)
  c2 : (a2, o2) ∈ l
  c3 : (a3, o3) ∈ l
  wd : (D1, oW) ∈ l
  t8 : (389, o8) ∈ l
  t7 : (207, o7) ∈ l
section
variable {G : Gram} {a2 a3 Df D1 I : Addr} {o2 o3 oW o8 o7 : Obj} {f g : Nat → Str} {B : Nat} {l l' n0 : Led}
theorem LJ.aside (h : LJ G a2 o2 a3 o3 Df D1 oW o8 o7 f B l) (h0 : a2 < I ∧ a3 < I ∧ Df < I ∧ D1 < I ∧ 389 < I ∧ 207 < I) (k : ∀ z ∈ l, (Asked z.2 ∨ z.1 ≠ I) → z ∈ l') : LJ G a2 o2 a3 o3 Df D1 oW o8 o7 f B l' where
  stt := h.stt.asked fun z hz ha _ => k z hz (.inl ha)
  fst := let ⟨its, kk, h1, h2⟩ := h.fst; ⟨its, kk, k _ h1 (.inr (Nat.ne_of_lt h0.2.2.1)), h2⟩
  c2 := k _ h.c2 (.inr (Nat.ne_of_lt h0.1))
  c3 := k _ h.c3 (.inr (Nat.ne_of_lt h0.2.1))
  wd := k _ h.wd (.inr (Nat.ne_of_lt h0.2.2.2.1))
  t8 := k _ h.t8 (.inr (Nat.ne_of_lt h0.2.2.2.2.1))
  t7 := k _ h.t7 (.inr (Nat.ne_of_lt h0.2.2.2.2.2))
theorem LJ.mono (h : LJ G a2 o2 a3 o3 Df D1 oW o8 o7 f B l) (k : ∀ z ∈ l, z ∈ l') : LJ G a2 o2 a3 o3 Df D1 oW o8 o7 f B l' where
  stt := h.stt.mono k
  fst := let ⟨its, kk, h1, h2⟩ := h.fst; ⟨its, kk, k _ h1, h2⟩
  c2 := k _ h.c2
  c3 := k _ h.c3
  wd := k _ h.wd
  t8 := k _ h.t8
  t7 := k _ h.t7
theorem LJ.below (h : LJ G a2 o2 a3 o3 Df D1 oW o8 o7 f B l) (hI : ∀ z ∈ l, z.1 < I) : a2 < I ∧ a3 < I ∧ Df < I ∧ D1 < I ∧ 389 < I ∧ 207 < I :=
  let ⟨_, _, h1, _⟩ := h.fst; ⟨hI _ h.c2, hI _ h.c3, hI _ h1, hI _ h.wd, hI _ h.t8, hI _ h.t7⟩
/-- the objects' kinds -/
structure LK (a2 : Addr) (o2 : Obj) (a3 Df : Addr) (oW o8 o7 : Obj) : Prop where
  c2 : o2.data = .cell (some (.ref Df))
  ne : a2 ≠ a3
  w : NoCell oW
  t8 : o8.cls = .none
  t7 : o7.cls = .none
  u8 : NoCell o8
  u7 : NoCell o7
  wl : oW.cls = .type "list"
/-- the cell of place is written -/
theorem LJ.place (h : LJ G a2 o2 a3 o3 Df D1 oW o8 o7 f B l) (K : LK a2 o2 a3 Df oW o8 o7) (hf : ∀ a o o', (a, o) ∈ l → (a, o') ∈ l → o = o') {v0 v1 : Option Value} (hd : o3.data = .cell v0) (k : ∀ z ∈ l, z.1 ≠ a3 → z ∈ l') (m : (a3, ({ o3 with data := .cell v1 } : Obj)) ∈ l') :
    LJ G a2 o2 a3 { o3 with data := .cell v1 } Df D1 oW o8 o7 f B l' := by
  have nc : ∀ a o, (a, o) ∈ l → NoCell o → a ≠ a3 := fun a o ho hn e => by
    subst e
    exact hn _ (hf _ _ _ ho h.c3 ▸ hd)
  obtain ⟨its, kk, h1, h2⟩ := h.fst
  exact ⟨h.stt.cell hf h.c3 hd k m, ⟨its, kk, k _ h1 (nc _ _ h1 (fun v q => nomatch q)), h2⟩, k _ h.c2 K.ne, m, k _ h.wd (nc _ _ h.wd K.w), k _ h.t8 (nc _ _ h.t8 K.u8), k _ h.t7 (nc _ _ h.t7 K.u7)⟩
/-- the list is written at a place -/
theorem LJ.write (h : LJ G a2 o2 a3 o3 Df D1 oW o8 o7 f B l) (hD : D1 ≠ Df) (K : LK a2 o2 a3 Df oW o8 o7) (hf : ∀ a o o', (a, o) ∈ l → (a, o') ∈ l → o = o') {v0 : Option Value} (hd : o3.data = .cell v0) (k : ∀ z ∈ l, z.1 ≠ Df → z ∈ l') {its : List Value} {kk : Nat} (hi : (Df, W.listOf its.toArray kk) ∈ l) {p : Nat} {wd : Str} {tk : Tok} {kk' : Nat} (m : (Df, W.listOf (its.set p (.str wd tk)).toArray kk') ∈ l')
    (hg : ∀ j, g j = if j = p then wd else f j) : LJ G a2 o2 a3 o3 Df D1 oW o8 o7 g B l' := by
  obtain ⟨its', kk2, h1, h2, h3⟩ := h.fst
  have e := hf _ _ _ hi h1
  have e2 : its = its' := by
    have e3 := congrArg Obj.data e
    injection e3 with e4 _
    simpa using e4
  subst e2
  have ne : ∀ a o, (a, o) ∈ l → o.cls ≠ .type "list" → a ≠ Df := fun a o ho hn q => by
    subst q
    exact hn (by rw [hf _ _ _ ho hi])
  have nd : ∀ a o, (a, o) ∈ l → (∃ v, o.data = .cell v) → a ≠ Df := fun a o ho ⟨v, hn⟩ q => by
    subst q
    rw [hf _ _ _ ho hi] at hn
    cases hn
  refine ⟨h.stt.asked fun z hz ha hn => k z hz (ne z.1 z.2 hz hn), ⟨_, _, m, by rw [List.length_set]; exact h2, fun j hj => ?_⟩, k _ h.c2 (nd _ _ h.c2 ⟨_, K.c2⟩), k _ h.c3 (nd _ _ h.c3 ⟨_, hd⟩), k _ h.wd hD, k _ h.t8 (ne _ _ h.t8 (by rw [K.t8]; decide)), k _ h.t7 (ne _ _ h.t7 (by rw [K.t7]; decide))⟩
  rw [List.length_set] at hj
  rw [hg]
  by_cases e : j = p
  · subst e
    rw [if_pos rfl, List.getElem?_set_self hj]
    exact ⟨tk, rfl⟩
  · rw [if_neg e, List.getElem?_set_ne (Ne.symm e)]
    exact h3 j hj
/-- a match was made -/
theorem LJ.matched (h : LJ G a2 o2 a3 o3 Df D1 oW o8 o7 f B l) (K : LK a2 o2 a3 Df oW o8 o7) (hc2 : a2 ∉ G.dxs) (hc3 : a3 ∉ G.dxs) {B' : Nat} (hS : Stt G B' l') (k : ∀ z ∈ l, (z.2.cls ≠ dT ∨ z.1 ∉ G.dxs) → z ∈ l') : LJ G a2 o2 a3 o3 Df D1 oW o8 o7 f B' l' := by
  obtain ⟨its, kk, h1, h2⟩ := h.fst
  exact ⟨hS, ⟨its, kk, k _ h1 (.inl ne_list), h2⟩, k _ h.c2 (.inr hc2), k _ h.c3 (.inr hc3), k _ h.wd (.inl (by rw [K.wl]; exact ne_list)), k _ h.t8 (.inl (by rw [K.t8]; decide)), k _ h.t7 (.inl (by rw [K.t7]; decide))⟩
theorem LJ.same (h : LJ G a2 o2 a3 o3 Df D1 oW o8 o7 f B l) (hg : ∀ j, j < G.text.length + 1 → g j = f j) : LJ G a2 o2 a3 o3 Df D1 oW o8 o7 g B l := by
  obtain ⟨its, kk, h1, h2, h3⟩ := h.fst
  exact ⟨h.stt, ⟨its, kk, h1, h2, fun j hj => by rw [hg j (h2 ▸ hj)]; exact h3 j hj⟩, h.c2, h.c3, h.wd, h.t8, h.t7⟩
end
end
section
theorem off_Lk : True := by
  w_top off
  exact True.intro
theorem unr_Lk {a b : Nat} (h : a < b) : a < b := h
local macro_rules | `(tactic| k_room) => `(tactic| ((try simp only [depth_under_make, depth_under_kw, depth_in1, depth_deeper, depth_caller]); (try dsimp only [ktrTop]); (try simp only [recursionLimit]); omega))
local macro_rules | `(tactic| k_units) => `(tactic| ((try simp only [units_in1, units_deeper, Around.mark_units, units_caller]); (try dsimp only [ktrTop]); (try simp only [cLine]); omega))
local macro_rules | `(tactic| k_enter) => `(tactic| (refine' code_def ?k1 ?k2 ?k3 ?k4 ?k5 ?kA ?kF ?kK ?k6 ?k7 ?k8 ?k9 ?kB ?_ ?c2 ?c3 ?c4 ?c5; (case kA => exact rfl); (case kF => exact rfl); (case kK => first | assumption | exact rfl); (case k1 => k_asm); (case k2 => k_asm); (case k3 => k_asm); (case k4 => k_asm); (case k5 => k_asm); (case k6 => k_is); (case k7 => k_is); (case k8 => k_room); (case k9 => first | exact BindsTo.of_eq rfl | exact binds_K (by k_in) rfl (by k_is) rfl rfl rfl | fail "k_enter: no rule for these arguments"); (case c5 => decide); (case kB => exact locs rfl); (case c2 => exact rfl); (case c3 => exact rfl); (case c4 => exact rfl); k_whole; intro g' L' h' FG' F' N' B' X' T'; (try dsimp only); (try k_lift B'); (try k_fold)))
local macro_rules | `(tactic| k_all) => `(tactic| (refine ne_of_below (by assumption) ?_; first | exact Nat.le_refl _ | omega))
local macro_rules | `(tactic| k_mem) => `(tactic| first | exact List.Mem.head _ | (refine List.Mem.tail _ ?_; k_mem) | assumption)
section
variable {prog : Program} {w : World} {A : Around} {E : Value → Shared → Prop} {s : Shared} {h₀ : Heap} {L D : Addr} {m : Str → Option Value} {news : Led} {its : List Value} {kk : Nat} {value slice : PySem.Expr}
/-- an item of a list whose items are texts by a function -/
theorem item_fw {f : Nat → Str} {i : Int} {ti : Tok} {y : Str} {Q : Value → Shared → Prop} (j : Nat) (hy : f j = y) (N : News h₀ L s.heap news) (hm : (D, W.listOf its.toArray kk) ∈ news) (hf : ∀ j, j < its.length → ∃ tk, its[j]? = some (.str (f j) tk)) (hij : i = (j : Int)) (hj : j < its.length) (hl : its.length ≤ 1000)
    (h : ∀ tk, Q (.str y tk) s)
    (hs : subscripted slice false (.ref D) (.int i ti) = operate [.ref D, .int i ti] (getItem (.ref D) (.int i ti)) := by with_unfolding_all rfl) : wpAny (model prog w) A (subscriptTail value slice (.ref D) (.int i ti)) Q E s := by
  subst hij
  subst hy
  obtain ⟨tk, hx⟩ := hf j hj
  exact tail_any (News.isList N hm).typeIs slot_list_getitem.lookup (wpAny_getItem_list (News.isList N hm) (by omega) (by omega) (by simpa using hx) (h tk)) hs
theorem item_at9 {i : Int} {ti : Tok} {v : Value} {Q : Value → Shared → Prop} (j : Nat) (N : News h₀ L s.heap news) (hm : (D, W.listOf its.toArray kk) ∈ news) (hij : i = (j : Int)) (hx : its[j]? = some v) (hl : j ≤ 1000) (h : Q v s)
    (hs : subscripted slice false (.ref D) (.int i ti) = operate [.ref D, .int i ti] (getItem (.ref D) (.int i ti)) := by with_unfolding_all rfl) : wpAny (model prog w) A (subscriptTail value slice (.ref D) (.int i ti)) Q E s := by
  subst hij
  exact tail_any (News.isList N hm).typeIs slot_list_getitem.lookup (wpAny_getItem_list (News.isList N hm) (by omega) (by omega) (by simpa using hx) h) hs
/-- a place of a list that lies anywhere in the ledger is written -/
theorem set_led {p : Nat} {tp : Tok} {v : Value} {Q : Unit → Shared → Prop} (F : Fr h₀ L s.heap m) (N : News h₀ L s.heap news) (hm : (D, W.listOf its.toArray kk) ∈ news) (hp : p < its.length) (hl : its.length ≤ 1000)
    (h : ∀ h' n', Fr h₀ L h' m → News h₀ L h' n' → (D, W.listOf (its.set p v).toArray kk) ∈ n' → (∀ z ∈ news, z.1 ≠ D → z ∈ n') → Q () { s with heap := h' }) : wpAny (model prog w) A (setItem (.ref D) (.int p tp) v) Q E s := by
  have N2 := focus N hm
  have z := N _ hm
  refine ki_setAt z.1 (by omega) (by omega) (by rw [List.size_toArray]; omega) (h _ _ (F.change (Heap.SameBut.update ..) z.2.1 z.2.2) (ki_turn (pre := []) (its' := (its.set p v).toArray) _ N2 (fun _ h => (nomatch h)) off_filter ?_ ?_) (.head _) in_filter)
  · simp
  · simp
theorem slice_fw {x : Str} {t : Tok} {i j : Int} {ui uj : Tok} {Q : Value → Shared → Prop} (hl : x.length ≤ 1000) (F : Fr h₀ L s.heap m) (N : News h₀ L s.heap news) (h : ∀ h' t' k, Fr h₀ L h' m → News h₀ L h' news → Q (.str (Txt.slice x (some i) (some j)) t') { s with heap := h', toks := k })
    (hs : subscripted slice false (.str x t) (.ref s.heap.objs.size) = operate [.ref s.heap.objs.size, .str x t] (getItem (.str x t) (.ref s.heap.objs.size)) := by with_unfolding_all rfl)
    (ht : ∀ r, letTemporaryGo value (.str x t) r = pure () := by intro _; with_unfolding_all rfl) :
    wpAny (model prog w) A (subscriptTail value slice (.str x t) (.ref s.heap.objs.size)) Q E { s with heap := s.heap.push { cls := .type "slice", data := .fields #[.int i ui, .int j uj, .none] } } :=
  slice_strN_ss F N h hs ht (by rw [sizeLine_eq]; omega)
end
section
variable {ws : List Str} {t wd : Str} {p k : Nat}
/-- the word taken at p when k words were looked at -/
def cur (ws : List Str) (t : Str) (p k : Nat) : Str := ((ws.take k).find? (fits ws t p)).getD eS
theorem cur_zero : cur ws t p 0 = eS := by unfold cur; rw [List.take_zero]; rfl
theorem cur_succ (h : ws[k]? = some wd) : cur ws t p (k + 1) = (((ws.take k).find? (fits ws t p)).or (if fits ws t p wd then some wd else none)).getD eS := by
  unfold cur
  rw [List.take_add_one, h, List.find?_append]
  show (Option.or _ (List.find? _ [wd])).getD eS = _
  rw [List.find?_cons]
  cases fits ws t p wd <;> rfl
theorem len_eS : (eS : Str).length = 0 := rfl
theorem cur_none (hpos : ∀ w ∈ ws, 1 ≤ w.length) (hc : cur ws t p k = eS) : (ws.take k).find? (fits ws t p) = none := by
  unfold cur at hc
  cases e : (ws.take k).find? (fits ws t p) with
  | none => rfl
  | some w =>
    rw [e] at hc
    have h1 := hpos w (List.mem_of_mem_take (List.mem_of_find?_eq_some e))
    have h2 : w.length = 0 := congrArg Str.length (show w = eS from hc)
    omega
theorem cur_hit (hpos : ∀ w ∈ ws, 1 ≤ w.length) (h : ws[k]? = some wd) (hc : cur ws t p k = eS) (hf : fits ws t p wd = true) : cur ws t p (k + 1) = wd := by
  rw [cur_succ h, cur_none hpos hc, hf]
  rfl
theorem cur_keep (h : ws[k]? = some wd) (hc : cur ws t p k ≠ eS ∨ fits ws t p wd = false) : cur ws t p (k + 1) = cur ws t p k := by
  rw [cur_succ h]
  rcases hc with hc | hc
  · unfold cur at hc ⊢
    cases e : (ws.take k).find? (fits ws t p) with
    | none => rw [e] at hc; exact absurd rfl hc
    | some w => rfl
  · rw [hc]
    unfold cur
    cases (ws.take k).find? (fits ws t p) <;> rfl
theorem cur_all (hpos : ∀ w ∈ ws, 1 ≤ w.length) {n : Nat} (hn : n = ws.length) : cur ws t p n = (fw ws t p).getD eS := by
  unfold cur
  rw [hn, List.take_length, fw_eq hpos]
theorem fw_eS (hpos : ∀ w ∈ ws, 1 ≤ w.length) : (fw ws t p).getD eS = eS ↔ fw ws t p = none := by
  cases e : fw ws t p with
  | none => exact ⟨fun _ => rfl, fun _ => rfl⟩
  | some w =>
    refine ⟨fun h => ?_, fun h => nomatch h⟩
    have h1 := hpos w (fw_mem hpos e).1
    have h2 : w.length = 0 := congrArg Str.length (show w = eS from h)
    omega
/-- what the list holds when i places are done, and k words at the place p -/
def stF (ws : List Str) (t : Str) (i p k j : Nat) : Str := if j = p then cur ws t p k else if t.length < j + i then (fw ws t j).getD eS else eS
def dnF (ws : List Str) (t : Str) (i j : Nat) : Str := if t.length < j + i then (fw ws t j).getD eS else eS
theorem st_start {i : Nat} (hp : p + i = t.length) (j : Nat) : stF ws t i p 0 j = dnF ws t i j := by
  unfold stF dnF
  by_cases e : j = p
  · rw [if_pos e, cur_zero, if_neg (by omega)]
  · rw [if_neg e]
theorem st_end (hpos : ∀ w ∈ ws, 1 ≤ w.length) {i n : Nat} (hp : p + i = t.length) (hn : n = ws.length) (j : Nat) : dnF ws t (i + 1) j = stF ws t i p n j := by
  unfold stF dnF
  by_cases e : j = p
  · rw [if_pos e, cur_all hpos hn, if_pos (by omega), e]
  · rw [if_neg e]
    by_cases e2 : t.length < j + i
    · rw [if_pos e2, if_pos (by omega)]
    · rw [if_neg e2, if_neg (by omega)]
theorem st_at {i : Nat} : stF ws t i p k p = cur ws t p k := if_pos rfl
theorem st_up {i n : Nat} (hp : p + i = t.length) (hn : 1 ≤ n) : stF ws t i p k (p + n) = (fw ws t (p + n)).getD eS := by
  unfold stF
  rw [if_neg (by omega), if_pos (by omega)]
theorem st_hit (hpos : ∀ w ∈ ws, 1 ≤ w.length) {i : Nat} (h : ws[k]? = some wd) (hc : cur ws t p k = eS) (hf : fits ws t p wd = true) (j : Nat) : stF ws t i p (k + 1) j = if j = p then wd else stF ws t i p k j := by
  unfold stF
  by_cases e : j = p
  · rw [if_pos e, if_pos e, cur_hit hpos h hc hf]
  · rw [if_neg e, if_neg e, if_neg e]
theorem st_keep {i : Nat} (h : ws[k]? = some wd) (hc : cur ws t p k ≠ eS ∨ fits ws t p wd = false) (j : Nat) : stF ws t i p (k + 1) j = stF ws t i p k j := by
  unfold stF
  rw [cur_keep h hc]
end
section
variable {ws : List Str} {t wd : Str} {p : Nat}
theorem sw_yes (hp : p ≤ t.length) (h : (Txt.slice t (some (p : Int)) (some ((p : Int) + (wd.length : Int))) == wd) = true) : Txt.startswith3 t wd (p : Int) = true :=
  (slice_word hp).mp (by rw [Int.natCast_add]; exact eq_of_beq h)
theorem fits_no (hp : p ≤ t.length) (h : (Txt.slice t (some (p : Int)) (some ((p : Int) + (wd.length : Int))) == wd) = false) : fits ws t p wd = false := by
  unfold fits
  cases e : Txt.startswith3 t wd (p : Int) with
  | false => rfl
  | true =>
    have h1 := (slice_word hp).mpr e
    rw [Int.natCast_add] at h1
    rw [h1, beq_self_eq_true] at h
    cases h
theorem fits_yes (hpos : ∀ w ∈ ws, 1 ≤ w.length) (hs : Txt.startswith3 t wd (p : Int) = true) (h : ((fw ws t (p + wd.length)).getD eS == eS) = true) : fits ws t p wd = true := by
  unfold fits
  rw [hs, (fw_eS hpos).mp (eq_of_beq h)]
  rfl
theorem fits_no2 (h : ((fw ws t (p + wd.length)).getD eS == eS) = false) : fits ws t p wd = false := by
  unfold fits
  cases e : fw ws t (p + wd.length) with
  | none => rw [e] at h; exact absurd h (by simp)
  | some w => simp
theorem ne_eS {x : Str} (h : (x == eS) = false) : x ≠ eS := fun e => by rw [e, beq_self_eq_true] at h; cases h
end
/-- a comprehension's state: what lies there stays, the items are all alike -/
def SameJ (n0 : Led) (P : Value → Prop) (i : Nat) (ys : List Value) (l : Led) : Prop := (∀ z ∈ n0, z ∈ l) ∧ ys.length = i ∧ ∀ y ∈ ys, P y
theorem SameJ.start (n0 : Led) (P : Value → Prop) : SameJ n0 P 0 [] n0 := ⟨fun _ h => h, rfl, fun _ h => nomatch h⟩
theorem SameJ.step {n0 l all : Led} {P : Value → Prop} {i : Nat} {ys : List Value} {I C D : Addr} {y : Value} (h : SameJ n0 P i ys l) (off : LCg.Off3 I C D l) (up : ∀ z ∈ l, z ∈ all) (hy : P y) : SameJ n0 P (i + 1) (ys ++ [y]) (f3 I C D all) := by
  obtain ⟨h1, h2, h3⟩ := h
  have om := off.mem
  refine ⟨fun z hz => mem_f3.mpr ⟨up z (h1 z hz), om z (h1 z hz)⟩, by rw [List.length_append, h2]; rfl, fun q hq => ?_⟩
  rcases List.mem_append.mp hq with hq | hq
  · exact h3 q hq
  · rw [List.mem_singleton.mp hq]; exact hy
theorem SameJ.one {n0 l : Led} {v : Value} {ys : List Value} {n : Nat} (h : SameJ n0 (fun y => y = v) n ys l) (hn : n = 1) : ys = [v] := by
  obtain ⟨-, h2, h3⟩ := h
  subst hn
  obtain ⟨a, rfl⟩ := List.length_eq_one_iff.mp h2
  rw [h3 a (.head _)]
theorem frameL3 {x y1 y2 y3 z : Str} {u u' M : Str → Option Value} {v a b c : Option Value} (h1 : z ≠ x) (h2 : [y1, y2, y3].contains z = false) :
    (if z = y3 then a else if z = y2 then b else if z = y1 then c else anyBut [] u' (fun y => if y = x then v else anyBut [y1, y2, y3] u M y) z) = M z := by
  have h3 : z ≠ y1 ∧ z ≠ y2 ∧ z ≠ y3 := by
    refine ⟨?_, ?_, ?_⟩ <;> intro e <;> subst e <;> simp at h2
  rw [if_neg h3.2.2, if_neg h3.2.1, if_neg h3.1]
  show (if z = x then v else anyBut [y1, y2, y3] u M z) = M z
  rw [if_neg h1]
  unfold anyBut
  rw [h2]
  rfl
theorem SameJ.post {h₀ : Heap} {L : Addr} {m : Str → Option Value} {s : Shared} {I C D ax : Addr} {oI oC : Obj} {ys : List Value} {n0 l all : Led} {P : Value → Prop} {i k : Nat} {h' : Heap} {tk' : Nat} {its : Array Value} {y : Value} (h : SameJ n0 P i ys l) (off : LCg.Off3 I C D l) (hP : P y)
    (F : Fr h₀ L h' m) (N : News h₀ L h' all) (sub : ∀ z ∈ (I, oI) :: (C, oC) :: (D, LCg.lst ys) :: l, z ∈ all) (hs : (ax, W.listOf its k) ∈ n0) : CPost h₀ L m s I oI C oC D (LCg.lst ys) (fun y l => LCg.SrcAt h₀ ax its l ∧ SameJ n0 P (i + 1) (ys ++ [y]) l) y { s with heap := h', toks := tk' } := by
  have h1 := h.step off (fun z hz => sub z (.tail _ (.tail _ (.tail _ hz)))) hP
  exact ⟨_, _, _, rfl, F, N, sub _ (.head _), sub _ (.tail _ (.head _)), sub _ (.tail _ (.tail _ (.head _))), .inr ⟨_, h1.1 _ hs, rfl, _, rfl⟩, h1⟩
end
section
theorem off_Lu : True := by
  w_top off
  exact True.intro
theorem unr_Lu {a b : Nat} (h : a < b) : a < b := h
local macro_rules | `(tactic| k_room) => `(tactic| ((try simp only [depth_under_make, depth_under_kw, depth_in1, depth_deeper, depth_caller]); (try dsimp only [ktrTop]); (try simp only [recursionLimit]); omega))
local macro_rules | `(tactic| k_units) => `(tactic| ((try simp only [units_in1, units_deeper, Around.mark_units, units_caller]); (try dsimp only [ktrTop]); (try simp only [cLine]); omega))
local macro_rules | `(tactic| k_enter) => `(tactic| (refine' code_def ?k1 ?k2 ?k3 ?k4 ?k5 ?kA ?kF ?kK ?k6 ?k7 ?k8 ?k9 ?kB ?_ ?c2 ?c3 ?c4 ?c5; (case kA => exact rfl); (case kF => exact rfl); (case kK => first | assumption | exact rfl); (case k1 => k_asm); (case k2 => k_asm); (case k3 => k_asm); (case k4 => k_asm); (case k5 => k_asm); (case k6 => k_is); (case k7 => k_is); (case k8 => k_room); (case k9 => first | exact BindsTo.of_eq rfl | exact binds_K (by k_in) rfl (by k_is) rfl rfl rfl | fail "k_enter: no rule for these arguments"); (case c5 => decide); (case kB => exact locs rfl); (case c2 => exact rfl); (case c3 => exact rfl); (case c4 => exact rfl); k_whole; intro g' L' h' FG' F' N' B' X' T'; (try dsimp only); (try k_lift B'); (try k_fold)))
local macro_rules | `(tactic| k_all) => `(tactic| (refine ne_of_below (by assumption) ?_; first | exact Nat.le_refl _ | omega))
local macro_rules | `(tactic| k_mem) => `(tactic| first | exact List.Mem.head _ | (refine List.Mem.tail _ ?_; k_mem) | assumption)
theorem DoesTop.use {w : World} {kd ku : Nat} {t : Sem Value} {news : Led} {R : Value → Led → Prop} (C : DoesTop w kd ku t news R)
    {dp un : Nat} {gd : Option (List Code)} {cn : Str} {cs : Scope} {a : Addr} {ccd : Value} {cl : List (Str × Addr)} {A₀ : Around} {h₀ : Heap} {L : Addr} {m : Str → Option Value} {s : Shared}
    {loose : List Str} {mean : ExcName → Option Value} {mg mb : Str → Option Value} {Q E : Value → Shared → Prop}
    (B : Below A₀ h₀ [] h₀) (F : Fr h₀ L s.heap m) (X : (hd.heap_39 w.params).In h₀) (N : News h₀ L s.heap news) (T : Top topProg loose mean mg mb h₀) (hk : cs.kind = .function) (hd : dp + kd < 1000) (hu : un + ku < 9900)
    (h : ∀ r news' h' tk', Fr h₀ L h' m → News h₀ L h' news' → R r news' → Q r { s with heap := h', toks := tk' }) :
    wpAny (model PySem.Challenge.rw_vj0022_01.row.prog w) (ktrTop dp un gd cn cs L a ccd cl []) t Q E s :=
  C dp un gd cn cs a ccd cl A₀ h₀ L m s loose mean mg mb Q E B F X N T hk hd hu h
theorem law_matched_at (w : World) (G : Gram) (hG : G.Ok) (x : Addr) (p nB : Nat) (hx : x ∈ G.xs) (t : Str) (ht : G.text = t) (hp : p ≤ t.length) (news : Led) (tt tp : Tok) (hB : nB ≤ 900) (hS : Stt G nB news) :
    DoesTop w 300 2000 (call (.ref 560) [.ref x, .str t tt, .int p tp]) news fun r news' => ∃ items k l, r = .ref l ∧ (l, W.listOf (items : List Value).toArray k) ∈ news' ∧ Stt G (nB + 1) news' ∧ (∀ z ∈ news, (z.2.cls ≠ dT ∨ z.1 ∉ G.dxs) → z ∈ news') ∧
      (match G.den x p with | none => items = [] | some q => ∃ nd, items = [.ref nd] ∧ N2 G G.dxs news' nd x p q) := by
  subst ht
  exact law_matched w G hG x p nB hx hp news tt tp hB hS
def wholeV (o : Option Nat) (n : Nat) : Int := match o with | none => -1 | some q => if q = n then (q : Int) else -1
theorem law_whole_at (w : World) (G : Gram) (hG : G.Ok) (x : Addr) (nB : Nat) (hx : x ∈ G.xs) (t : Str) (ht : G.text = t) (news : Led) (tt : Tok) (hB : nB ≤ 900) (hS : Stt G nB news) :
    DoesTop w 300 2000 (call (.ref 567) [.ref x, .str t tt]) news fun r news' => (∃ tk, r = .int (wholeV (G.den x 0) t.length) tk) ∧ ∀ z ∈ news, (z.2.cls ≠ dT ∨ z.1 ∉ G.dxs) → z ∈ news' := by
  subst ht
  exact law_whole w G hG x nB hx news tt hB hS
theorem NodeB.kept {Mu : List Addr} {l l' : Led} {nd x : Addr} {text : Str} {p q : Int} {items : List Value} (h : NodeB Mu l nd x text p q items) (s : ∀ z ∈ l, (z.2.cls ≠ dT ∨ z.1 ∉ Mu) → z ∈ l') : NodeB Mu l' nd x text p q items := by
  obtain ⟨dx, ch, tt, tp, tq, k, od, hn, hn', h1, h2, h3⟩ := h
  exact ⟨dx, ch, tt, tp, tq, k, od, hn, hn', s _ h1 (.inl (ne_ref _)), s _ h2 (.inr hn), s _ h3 (.inl ne_list)⟩
end
section
theorem off_Pt : True := by
  w_top off
  exact True.intro
local macro_rules | `(tactic| walk_at "off 0") => `(tactic| fail)
theorem unr_Pt {a b : Nat} (h : a < b) : a < b := h
local macro_rules | `(tactic| k_room) => `(tactic| ((try simp only [depth_under_make, depth_under_kw, depth_in1, depth_deeper, depth_caller]); (try dsimp only [ktrTop]); (try simp only [recursionLimit]); omega))
local macro_rules | `(tactic| k_units) => `(tactic| ((try simp only [units_in1, units_deeper, Around.mark_units, units_caller]); (try dsimp only [ktrTop]); (try simp only [cLine]); omega))
local macro_rules | `(tactic| k_enter) => `(tactic| (refine' code_def ?k1 ?k2 ?k3 ?k4 ?k5 ?kA ?kF ?kK ?k6 ?k7 ?k8 ?k9 ?kB ?_ ?c2 ?c3 ?c4 ?c5; (case kA => exact rfl); (case kF => exact rfl); (case kK => first | assumption | exact rfl); (case k1 => k_asm); (case k2 => k_asm); (case k3 => k_asm); (case k4 => k_asm); (case k5 => k_asm); (case k6 => k_is); (case k7 => k_is); (case k8 => k_room); (case k9 => first | exact BindsTo.of_eq rfl | exact binds_K (by k_in) rfl (by k_is) rfl rfl rfl | fail "k_enter: no rule for these arguments"); (case c5 => decide); (case kB => exact locs rfl); (case c2 => exact rfl); (case c3 => exact rfl); (case c4 => exact rfl); k_whole; intro g' L' h' FG' F' N' B' X' T'; (try dsimp only); (try k_lift B'); (try k_fold)))
local macro_rules | `(tactic| k_all) => `(tactic| (refine ne_of_below (by assumption) ?_; first | exact Nat.le_refl _ | omega))
local macro_rules | `(tactic| k_mem) => `(tactic| first | exact List.Mem.head _ | (refine List.Mem.tail _ ?_; k_mem) | assumption)
section
variable {prog : Program} {w : World} {A A₀ : Around} {E : Value → Shared → Prop} {s : Shared} {K : Frag} {x C L : Addr} {h₀ : Heap} {m : Str → Option Value} {ox od : Obj} {name : Str}
theorem get_propS {expr : Bool} {Q : Value → Shared → Prop} {p fget : Addr} {rest : List Value} (F : Fr h₀ L s.heap m) (X₀ : K.In h₀) (I : InstAt s.heap x ox C (some od)) (hg : plainGet K C name = true) (hc : isClsIn K C = true)
    (ha : findIn K (.ref C) name = some (some (.ref p))) (hn : specialIn K (.ref p) "__get__" = some (some (.builtin "property.__get__"))) (ht : takesIn K (.ref p) = some true) (hp : recIn K p "property" = some (.ref fget :: rest))
    (h : codeAny (model prog w) A.in1 (.call (.ref fget) ⟨[.ref x], []⟩) (fun r s' => match r with | .ok (.ret v) => wpAny (model prog w) A (handedOut v) Q E s' | .ok _ => False | .error e => wpAny (model prog w) A (noteIf true (.ref x) (.str name s.toks) e) (fun _ s'' => E e s'') E s') { s with toks := s.toks + 1 }) :
    wpAny (model prog w) A (getAttr (.ref x) name expr) Q E s :=
  get_bind (X₀.keeps F.keep) I (plainGet_of hg).1 (findObj_data hc ha hn ht) (plainGet_of hg).2 (wpAny_call (prop_get (s := { s with toks := s.toks + 1 }) (X₀.keeps F.keep) hp h))
end
/-- node.text -/
theorem text_prop (w : World) (news : Led) (nd dx ch x : Addr) (text : Str) (tt : Tok) (p q : Int) (tp tq : Tok) (od : Nat) (hl : text.length ≤ 1000) (h1 : (nd, nodeObj dx ch x text tt p q tp tq) ∈ news) (h2 : (dx, dictOf [] od) ∈ news) :
    Does w 20 100 (getAttr (.ref nd) (Str.ofString "text") true) news fun r news' => (∃ tk, r = .str (Txt.slice text (some p) (some q)) tk) ∧ ∀ z ∈ news, z ∈ news' := by
  unfold Does
  k_fill
  intro dp un gd cn cs a ccd cl outer A₀ base h₀ L m s loose mean mg mb Q E B F X N T hk hdp hun hret
  refine' get_propS ?k1 ?k2 ?k3 ?k4 ?k5 ?k6 ?k7 ?k8 ?k9 ?_
  (case k1 => k_asm)
  (case k2 => k_asm)
  (case k3 => k_inst)
  (case k4 => k_is)
  (case k5 => k_is)
  (case k6 => k_is)
  (case k7 => k_is)
  (case k8 => k_is)
  (case k9 => k_is)
  k_whole
  k_enter
  k_steps
  exact hret _ _ _ _ (by assumption) (by assumption) ⟨⟨_, rfl⟩, fun _ h => h⟩
end
section
theorem off_T9 : True := by
  w_top off
  exact True.intro
local macro_rules | `(tactic| walk_at "off 0") => `(tactic| fail)
local macro_rules | `(tactic| walk_at "off 1") => `(tactic| fail)
theorem unr_T9 {a b : Nat} (h : a < b) : a < b := h
local macro_rules | `(tactic| k_room) => `(tactic| ((try simp only [depth_under_make, depth_under_kw, depth_in1, depth_deeper, depth_caller]); (try dsimp only [ktrTop]); (try simp only [recursionLimit]); omega))
local macro_rules | `(tactic| k_units) => `(tactic| ((try simp only [units_in1, units_deeper, Around.mark_units, units_caller]); (try dsimp only [ktrTop]); (try simp only [cLine]); omega))
local macro_rules | `(tactic| k_enter) => `(tactic| (refine' code_def ?k1 ?k2 ?k3 ?k4 ?k5 ?kA ?kF ?kK ?k6 ?k7 ?k8 ?k9 ?kB ?_ ?c2 ?c3 ?c4 ?c5; (case kA => exact rfl); (case kF => exact rfl); (case kK => first | assumption | exact rfl); (case k1 => k_asm); (case k2 => k_asm); (case k3 => k_asm); (case k4 => k_asm); (case k5 => k_asm); (case k6 => k_is); (case k7 => k_is); (case k8 => k_room); (case k9 => first | exact BindsTo.of_eq rfl | exact binds_K (by k_in) rfl (by k_is) rfl rfl rfl | fail "k_enter: no rule for these arguments"); (case c5 => decide); (case kB => exact locs rfl); (case c2 => exact rfl); (case c3 => exact rfl); (case c4 => exact rfl); k_whole; intro g' L' h' FG' F' N' B' X' T'; (try dsimp only); (try k_lift B'); (try k_fold)))
local macro_rules | `(tactic| k_all) => `(tactic| (refine ne_of_below (by assumption) ?_; first | exact Nat.le_refl _ | omega))
local macro_rules | `(tactic| k_mem) => `(tactic| first | exact List.Mem.head _ | (refine List.Mem.tail _ ?_; k_mem) | assumption)
theorem LCg.Off1_mem {D : Addr} : ∀ {l : Led}, LCg.Off1 D l → ∀ p ∈ l, p.1 ≠ D
  | [], _, _, h => nomatch h
  | _ :: _, x, p, h => by
    rcases List.mem_cons.mp h with rfl | h
    · exact x.1
    · exact LCg.Off1_mem x.2 p h
theorem DoesG.use {w : World} {kd ku : Nat} {t : Sem Value} {news : Led} {R : Value → Led → Prop} (C : DoesG w kd ku t news R)
    {dp un : Nat} {gd : Option (List Code)} {env : Env} {outer : List Env} {A₀ : Around} {base h₀ : Heap} {L : Addr} {m : Str → Option Value} {s : Shared}
    {loose : List Str} {mean : ExcName → Option Value} {mg mb : Str → Option Value} {Q E : Value → Shared → Prop}
    (hf : env.frame = some L) (hk : env.scope.kind = .function) (B : Below A₀ base outer h₀) (F : Fr h₀ L s.heap m) (X : (hd.heap_39 w.params).In h₀) (N : News h₀ L s.heap news) (T : Top topProg loose mean mg mb h₀) (hd : dp + kd < 1000) (hu : un + ku < 9900)
    (h : ∀ r news' h' tk' gs', Fr h₀ L h' m → News h₀ L h' news' → GKeep s.gens gs' → R r news' → Q r { s with heap := h', toks := tk', gens := gs' }) :
    wpAny (model PySem.Challenge.rw_vj0022_01.row.prog w) (kTop dp un gd env outer) t Q E s :=
  C dp un gd env outer A₀ base h₀ L m s loose mean mg mb Q E hf hk B F X N T hd hu h
theorem size_up1 (n : Nat) : Builtin.Range.rangeSize 0 (1 + (n : Int)) 1 = ((1 + n : Nat) : Int) := by rw [rangeSize_nat]; omega
theorem size_up2 (n : Nat) : Builtin.Range.rangeSize 0 ((n : Int) + 1) 1 = ((n + 1 : Nat) : Int) := by rw [rangeSize_nat]; omega
theorem small_up2 {n : Nat} (h : n ≤ 1000) : Builtin.Range.small 0 ((n : Int) + 1) 1 = true := small_one (by omega) (by omega) (by omega) (by omega)
theorem small_up1 {n : Nat} (h : n ≤ 1000) : Builtin.Range.small 0 (1 + (n : Int)) 1 = true := small_one (by omega) (by omega) (by omega) (by omega)
theorem rep_one (n : Nat) (v : Value) : (List.replicate ((n : Int) + 1).toNat [v]).flatten = List.replicate (n + 1) v := by
  rw [show ((n : Int) + 1).toNat = n + 1 by omega]
  generalize n + 1 = k
  induction k with
  | zero => rfl
  | succ k ih => rw [List.replicate_succ, List.flatten_cons, ih]; rfl
local macro_rules | `(tactic| walk_at "binaryOp Mult ref int") => `(tactic| (k_here; k_dflt (refine' KMa.mul (vs := [_]) ?F ?N (News.isList ?N ?l) ?lo ?hi ?z (rep_one _ _) ?_; (case N => k_asm); (case l => k_mem); (case F => k_asm); (case lo => omega); (case hi => omega); (case z => (simp only [List.length_cons, List.length_nil]; omega)); intro D' h' F' N' l1; (try dsimp only))))
local macro_rules | `(tactic| walk_at "storeName") => `(tactic| (k_here; k_dflt (first
 | ((with_reducible show wpAny _ _ (storeName _ (Str.ofString "first") _) _ _ _); refine' storeC_led ?F ?N ?c ?m ?d ?_ ?a ?b; (case a => rfl); (case b => rfl); (case N => k_asm); (case F => k_asm); (case c => rfl); (case m => k_mem); (case d => first | assumption | exact rfl); intro h9 n9 F9 N9 m9 k9; (try dsimp only); refine stop ?_)
 | ((with_reducible show wpAny _ _ (storeName _ (Str.ofString "place") _) _ _ _); refine' storeC_led ?F ?N ?c ?m ?d ?_ ?a ?b; (case a => rfl); (case b => rfl); (case N => k_asm); (case F => k_asm); (case c => rfl); (case m => k_mem); (case d => first | assumption | exact rfl); intro h9 n9 F9 N9 m9 k9; (try dsimp only); refine stop ?_))))
local macro_rules | `(tactic| walk_at "exec For") => `(tactic| (refine stop ?_))
local macro_rules | `(tactic| walk_at "exec For Name Call cons nil") => `(tactic| (refine stop ?_))
local macro_rules | `(tactic| walk_at "exec For Name Name cons nil") => `(tactic| (refine stop ?_))
local macro_rules | `(tactic| walk_at "eval ListComp") => `(tactic| (refine stop ?_))
local macro_rules | `(tactic| walk_at "exec Assign cons ListComp") => `(tactic| (refine stop ?_))
local macro_rules | `(tactic| walk_at "CompSrc") => `(tactic| (refine stop ?_))
local macro_rules | `(tactic| walk_at "subscriptTail") => `(tactic| (k_here; (with_reducible show wpAny _ _ (subscriptTail _ _ _ _) _ _ _); refine stop ?_))
local macro_rules | `(tactic| walk_at "setItem") => `(tactic| (k_here; (with_reducible show wpAny _ _ (setItem _ _ _) _ _ _); refine stop ?_))
local macro_rules | `(tactic| walk_at "getAttr ref") => `(tactic| (k_here; (with_reducible show wpAny _ _ (getAttr _ (Str.ofString "text") _) _ _ _); refine stop ?_))
local macro_rules | `(tactic| walk_at "compareOp Eq int int") => `(tactic| (k_here; refine stop ?_))
local macro_rules | `(tactic| walk_at "call builtin:len") => `(tactic| (k_here; k_dflt (refine' len_str9 ?hl ?_; (case hl => assumption); intro k8 k9; (try dsimp only); (try k_fold))))
local macro_rules | `(tactic| walk_at "getMethod ref") => `(tactic| (k_here; k_dflt (first
 | ((with_reducible show wpAny _ _ (getMethod _ (Str.ofString "resolve_refs") _) _ _ _); refine' me451 ?X ?F ?N ?h1 ?h2 ?_; (case N => k_asm); (case h1 => assumption); (case h2 => assumption); (case X => k_asm); (case F => k_asm))
 | ((with_reducible show wpAny _ _ (getMethod _ (Str.ofString "resolve_refs") _) _ _ _); refine' me425 ?X ?F ?N ?h1 ?h2 ?_; (case N => k_asm); (case h1 => assumption); (case h2 => assumption); (case X => k_asm); (case F => k_asm)))))
local macro_rules | `(tactic| walk_at "call ref") => `(tactic| (k_here; k_dflt (first
 | ((with_reducible show wpAny _ _ (call (Value.ref 534) [_, _]) _ _ _); refine' Does.use (law_next _ _ _ _ _ _ _ _ _ _ _ _ ?n0 ?n1 ?hs ?hl ?hne ?hi ?hlen ?hj0 ?hj) ?B ?F ?X ?N ?T ?k ?d ?u ?_; (case N => k_asm); (case hi => assumption); (case hs => k_mem); (case hl => k_mem); (case hne => assumption); (case n0 => decide); (case n1 => decide); (case hlen => assumption); (case hj0 => omega); (case hj => omega); (case B => k_asm); (case F => k_asm); (case X => k_asm); (case T => k_asm); (case k => first | assumption | exact rfl); (case d => k_room); (case u => k_units); intro r9 n9 h9 t9 F9 N9 R9; (try dsimp only); (try k_fold); refine stop ?_)
 | ((with_reducible show wpAny _ _ (call (Value.ref 534) [_, _]) _ _ _); refine stop ?_)
 | ((with_reducible show wpAny _ _ (call (Value.ref 367) [_]) _ _ _); refine' Does.use (lit_new _ _ _ _) ?B ?F ?X ?N ?T ?k ?d ?u ?_; (case N => k_asm); (case B => k_asm); (case F => k_asm); (case X => k_asm); (case T => k_asm); (case k => first | assumption | exact rfl); (case d => k_room); (case u => k_units); intro r9 n9 h9 t9 F9 N9 R9; (try dsimp only); (try k_fold); refine stop ?_)
 | ((with_reducible show wpAny _ _ (call (Value.ref 523) [_]) _ _ _); refine' Does.use (lz_made _ _ _ _ ?hx) ?B ?F ?X ?N ?T ?k ?d ?u ?_; (case N => k_asm); (case hx => decide); (case B => k_asm); (case F => k_asm); (case X => k_asm); (case T => k_asm); (case k => first | assumption | exact rfl); (case d => k_room); (case u => k_units); intro r9 n9 h9 t9 F9 N9 R9; (try dsimp only); (try k_fold); refine stop ?_)
 | ((with_reducible show wpAny _ _ (call (Value.ref 499) [_]) _ _ _); refine' Does.use (not_new _ _ _) ?B ?F ?X ?N ?T ?k ?d ?u ?_; (case N => k_asm); (case B => k_asm); (case F => k_asm); (case X => k_asm); (case T => k_asm); (case k => first | assumption | exact rfl); (case d => k_room); (case u => k_units); intro r9 n9 h9 t9 F9 N9 R9; (try dsimp only); (try k_fold); refine stop ?_)
 | ((with_reducible show wpAny _ _ (call (Value.ref 425) [_, _]) _ _ _); refine' Does.use (seq2_new _ _ _ _) ?B ?F ?X ?N ?T ?k ?d ?u ?_; (case N => k_asm); (case B => k_asm); (case F => k_asm); (case X => k_asm); (case T => k_asm); (case k => first | assumption | exact rfl); (case d => k_room); (case u => k_units); intro r9 n9 h9 t9 F9 N9 R9; (try dsimp only); (try k_fold); refine stop ?_)
 | ((with_reducible show wpAny _ _ (call (Value.ref 539) [_, _]) _ _ _); refine stop ?_)
 | ((with_reducible show wpAny _ _ (call (Value.ref 546) [_, _]) _ _ _); refine stop ?_)
 | ((with_reducible show wpAny _ _ (call (Value.ref 553) [_, _]) _ _ _); refine stop ?_)
 | ((with_reducible show wpAny _ _ (call (Value.ref 394) [_, _]) _ _ _); refine stop ?_)
 | ((with_reducible show wpAny _ _ (call (Value.ref 560) _) _ _ _); refine stop ?_)
 | ((with_reducible show wpAny _ _ (call (Value.ref 567) _) _ _ _); refine stop ?_))))
theorem law9 : PySem.Challenge.rw_vj0022_01.Holds := Mine.hd (by
  k_fill
  intro w s₀ s₁ mg mb G Y fa o pm cd doc dV kV ho hd hcd hD hmg hg args vals as hpre hlay hrd hwl hlo
  have KX := km_in_of Y
  km_tabs Y
  have X := (Ground.X G).1
  have V := (Ground.X G).2
  refine Ground.open G ?_
  intro T B D TE TW
  try (refine guard_noD D (by decide +kernel) ?_; clear D)
  have hT9 : TabsAt [(211, 207), (393, 389)] s₁.heap := List.forall_mem_cons.mpr ⟨⟨codeHd_of_K (c := 211) (P := 207) KX (by kernel_rfl), hT8 207 (by k_mem)⟩, List.forall_mem_cons.mpr ⟨⟨codeHd_of_K (c := 393) (P := 389) KX (by kernel_rfl), hT8 389 (by k_mem)⟩, fun _ h => nomatch h⟩⟩
  clear hmg
  wrow_args hpre hlay hrd hwl hlo
  all_goals (
    first | refine callC_kw (enter_call ?_) | refine enter_call ?_
    w_top on
    refine law_post hT9 (fun _ _ => rfl) ?_
    w_call any ho hd hcd hD T F
    clear hd
    kn_ghosts F T
    k_drop
    skip)

  all_goals (try k_fold)
  k_steps
  refine unstop ?_
  rename_i c1 c2 c3 le1 le2 le3 cX0 gX gT gK gC l0g D0 ws0 h0 hI0 hC0 hL0 l00 st hst l01 h1 oS F1 N1 dS0
  have d1 : c1.data = .cell none := le1
  have d2 : c2.data = .cell none := le2
  have dS : oS.data = .cell (some (.ref st)) := dS0
  have hne : D0 ≠ st := Nat.ne_of_lt l01.1
  have hlen : ws0.length ≤ 60 := by rw [hI0.length]; rw [hC0]; exact Nat.min_le_left _ _
  k_dflt (refine LCg.Assign_ListComp_U (F₀ := F1) (by rfl) (by with_unfolding_all rfl) (by with_unfolding_all rfl) (by decide) (by rfl) (by decide) (by rfl) (by rfl) (by rfl) ?_)
  k_steps
  refine unstop ?_
  rename_i r9 n9 h9 t9 F9 N9 R9
  obtain ⟨v0, tv, tj3, ks3, rfl, v1, v2, m1, m2⟩ := R9
  obtain ⟨n0, rfl⟩ := Int.eq_ofNat_of_zero_le v1
  k_steps
  refine unstop ?_
  refine LCg.CompSrc.range (n := 1 + n0) (by rfl) (by k_asm) (by k_asm) (by assumption) (small_up1 (by omega)) (size_up1 n0) (by rw [sizeLine_eq]; omega) ?_
  intro g
  have mD0 := m2 _ (.tail _ (.head _)) hne
  have neS : s₁.heap.objs.size + 1 ≠ st := Nat.ne_of_lt l01.2.2.2.1
  have ne7 : (207 : Addr) ≠ st := Nat.ne_of_lt l01.2.2.2.2.1
  have ne8 : (389 : Addr) ≠ st := Nat.ne_of_lt l01.2.2.2.2.2
  have ne2 : s₁.heap.objs.size + 1 + 1 ≠ st := Nat.ne_of_lt l01.2.2.1
  have ne3 : s₁.heap.objs.size + 1 + 1 + 1 ≠ st := Nat.ne_of_lt l01.2.1
  have mS := m2 _ (.tail _ (.tail _ (.tail _ (.tail _ (.head _))))) neS
  refine comp_inv (fun i ys l => (s₁.heap.objs.size + 1, oS) ∈ l ∧ (∃ j : Int, LN st D0 ws0 0 j l ∧ 0 ≤ j ∧ j ≤ 1 + 4 * (i : Int)) ∧ (∀ z ∈ n9, z.1 ≠ st → z ∈ l) ∧ ys.length = i ∧ ∀ y ∈ ys, ∃ t tt, y = .str t tt ∧ 1 ≤ t.length ∧ t.length ≤ 3) (1 + n0) ?_ ?_
    ⟨mS, ⟨0 + 1, ⟨hne, mD0, _, _, m1⟩, by omega, by omega⟩, fun z hz _ => hz, rfl, fun _ h => nomatch h⟩
  · intro i ys l v I oI C oC D m₂ h tk E' hi' hJ hP hC hx F' N' off ne'
    obtain ⟨q1, ⟨j, ⟨q2, q3, tj2, ks2, q4⟩, q5, q6⟩, q7, q8, q9⟩ := hJ
    k_steps
    refine unstop ?_
    rename_i r8 n8 h8 t8 F8 N8 R8
    obtain ⟨u0, tu, tj4, ks4, rfl, u1, u2, m3, m4⟩ := R8
    obtain ⟨n1, rfl⟩ := Int.eq_ofNat_of_zero_le u1
    k_steps
    refine unstop ?_
    rw [show (1 + (n1 : Int)) = ((1 + n1 : Nat) : Int) by omega]
    refine' Does.use (law_letters w n8 st D0 ws0 _ 0 (j + 1) (1 + n1) t8 (by omega) ⟨q2, m4 _ (.tail _ (.tail _ (.tail _ q3))) q2, _, _, m3⟩ hI0 hlen (by omega) (by omega)) ?B9 ?F9 ?X9 ?N9 ?T9 ?k9 ?d9 ?u9 ?_
    (case N9 => k_asm); (case B9 => k_asm); (case F9 => k_asm); (case X9 => k_asm); (case T9 => k_asm); (case k9 => exact rfl); (case d9 => k_room); (case u9 => k_units)
    intro r7 n7 h7 t7 F7 N7 R7
    obtain ⟨tx, ttx, rfl, htx, hLN, hkx⟩ := R7
    (try dsimp only)
    (try k_fold)
    k_steps
    have om := off.mem
    have kk : ∀ z ∈ (I, oI) :: (C, oC) :: (D, LCg.lst ys) :: l, z.1 ≠ st → z ∈ n7 := fun z hz hn => hkx z (m4 z hz hn) hn
    have o4 := om _ q4
    have upl : ∀ z ∈ l, z.1 ≠ st → z ∈ f3 I C D n7 := fun z hz hn => mem_f3.mpr ⟨kk z (.tail _ (.tail _ (.tail _ hz))) hn, om z hz⟩
    obtain ⟨_, hL2, tj9, ks9, hL3⟩ := hLN
    refine ⟨_, _, n7, rfl, by k_asm, by k_asm, kk _ (.head _) (Ne.symm o4.1), kk _ (.tail _ (.head _)) (Ne.symm o4.2.1), kk _ (.tail _ (.tail _ (.head _))) (Ne.symm o4.2.2), trivial, upl _ q1 neS, ⟨j + 1 + ((1 + n1 : Nat) : Int), ⟨q2, mem_f3.mpr ⟨hL2, om _ q3⟩, tj9, ks9, mem_f3.mpr ⟨hL3, o4⟩⟩, by omega, by omega⟩, fun z hz hn => upl z (q7 z hz hn) hn, by rw [List.length_append, q8]; rfl, fun y hy => ?_⟩
    rcases List.mem_append.mp hy with hy | hy
    · exact q9 y hy
    · exact ⟨tx, ttx, List.mem_singleton.mp hy, by omega, by omega⟩
  · intro ys l hJ
    obtain ⟨q1, ⟨j, ⟨q2, q3, tj2, ks2, q4⟩, q5, q6⟩, q7, q8, q9⟩ := hJ
    k_steps
    refine unstop ?_
    rename_i D1 hD1 tkD1 FD1 ND1 oD1 r8 n8 h8 t8 F8 N8 R8
    obtain ⟨u0, tu, tj4, ks4, rfl, u1, u2, m3, m4⟩ := R8
    obtain ⟨n2, rfl⟩ := Int.eq_ofNat_of_zero_le u1
    have hwne : D1 ≠ st := Ne.symm (LCg.Off1_mem oD1 _ q4)
    k_steps
    refine unstop ?_
    refine' Does.use (law_letters w n8 st D0 ws0 _ 0 (j + 1) n2 _ (by omega) ⟨q2, m4 _ (.tail _ q3) q2, _, _, m3⟩ hI0 hlen (by omega) (by omega)) ?B9 ?F9 ?X9 ?N9 ?T9 ?k9 ?d9 ?u9 ?_
    (case N9 => k_asm); (case B9 => k_asm); (case F9 => k_asm); (case X9 => k_asm); (case T9 => k_asm); (case k9 => exact rfl); (case d9 => k_room); (case u9 => k_units)
    intro r7 n7 h7 t7 F7 N7 R7
    obtain ⟨tx, ttx, rfl, htx, hLN, hkx⟩ := R7
    (try dsimp only)
    (try k_fold)
    have kt : ∀ z ∈ (D1, LCg.lst ys) :: l, z.1 ≠ st → z ∈ n7 := fun z hz hn => hkx z (m4 z hz hn) hn
    have mW := kt _ (.head _) hwne
    k_steps
    refine unstop ?_
    obtain ⟨ps, hps, hpl⟩ := words_of ys q9
    have hpn : ps.length = 1 + n0 := by rw [← q8, hps, List.length_map]
    k_dflt (refine LCg.ListComp_U (F₀ := by k_asm) (by with_unfolding_all rfl) (by decide) (by rfl) (by decide) (by rfl) ?_)
    k_steps
    refine unstop ?_
    refine LCg.CompSrc.ledger (by rfl) (by k_asm) (by k_asm) mW (by rw [List.size_toArray, sizeLine_eq]; omega) ?_
    intro g3
    rw [List.size_toArray]
    refine comp_inv (TreeJ true (Str.ofString "w") ps n7) ys.length ?_ ?_ (TreeJ.start ..)
    · intro i ys2 l2 v I oI C oC D m₂ h tk E' hi' hJ hP hC hx F' N' off ne'
      obtain ⟨p, hp, rfl⟩ := words_at hps hP
      obtain ⟨wd, tkv⟩ := p
      dsimp only
      k_steps
      refine unstop ?_
      rename_i r8 n8 h8 t8 F8 N8 R8
      obtain ⟨xl, dl, il, tl, rfl, hMl⟩ := R8
      k_steps
      refine unstop ?_
      rename_i r8 n8b h8 t8 F8 N8 R8
      obtain ⟨az, dz, kz, rfl, hMz⟩ := R8
      k_steps
      refine unstop ?_
      rename_i r8 n8c h8 t8 F8 N8 R8
      obtain ⟨y, dn, inn, tn, tt, kk, rfl, hMn, htt, hft⟩ := R8
      k_steps
      refine unstop ?_
      rename_i r8 n8d h8 t8 F8 N8 R8
      obtain ⟨sq, ds, iss, ts, st', ks', rfl, hMs, hst', hfs⟩ := R8
      k_steps
      exact tree_w hJ mW hp off hMl hMz hMn htt hft hMs hst' hfs (by k_asm) (by k_asm)
    · intro ys2 l2 hJ
      obtain ⟨Ts, hT1, hT2, hT3, hT4, hT6, hT5⟩ := hJ
      have hTw : Ts.map (·.2) = ps.map (·.1) := by rw [hT2, List.take_of_length_le (by rw [hpn, q8]; exact Nat.le_refl _)]
      have hTn : Ts.length = 1 + n0 := by rw [← hpn, ← List.length_map (f := (·.1)) (as := ps), ← hTw, List.length_map]
      k_steps
      refine unstop ?_
      rename_i D2 hD2 tkD2 FD2 ND2 oD2
      refine' Does.use (law_choiceN w _ D2 ys2 (Ts.map fun p => p.1.s) (by rw [hT1, List.map_map]; rfl) (by rw [List.length_map]; omega) (by rw [List.length_map]; omega) _ (Str.ofString "w") _ (.head _)) ?B9 ?F9 ?X9 ?N9 ?T9 ?k9 ?d9 ?u9 ?_
      (case N9 => k_asm); (case B9 => k_asm); (case F9 => k_asm); (case X9 => k_asm); (case T9 => k_asm); (case k9 => exact rfl); (case d9 => k_room); (case u9 => k_units)
      intro r10 n10 h10 t10 F10 N10 R10
      obtain ⟨xw, dw, idw, tnw, tw, kw, rfl, ⟨hxw, hdw, kpw, frw, frw2⟩, htw, hfw⟩ := R10
      (try dsimp only)
      (try k_fold)
      k_steps
      refine unstop ?_
      have kpw2 : ∀ z ∈ l2, z ∈ n10 := fun z hz => kpw z (.tail _ hz)
      have mW2 := kpw2 _ (hT5 _ mW)
      k_dflt (refine LCg.ListComp_U (F₀ := by k_asm) (by with_unfolding_all rfl) (by decide) (by rfl) (by decide) (by rfl) ?_)
      k_steps
      refine unstop ?_
      refine LCg.CompSrc.ledger (by rfl) (by k_asm) (by k_asm) mW2 (by rw [List.size_toArray, sizeLine_eq]; omega) ?_
      intro g4
      rw [List.size_toArray]
      refine comp_inv (TreeJ false (Str.ofString "l") ps n10) ys.length ?_ ?_ (TreeJ.start ..)
      · intro i ys3 l3 v I oI C oC D m₂ h tk E' hi' hJ hP hC hx F' N' off ne'
        obtain ⟨p, hp, rfl⟩ := words_at hps hP
        obtain ⟨wd, tkv⟩ := p
        dsimp only
        k_steps
        refine unstop ?_
        rename_i r8 n8 h8 t8 F8 N8 R8
        obtain ⟨xl, dl, il, tl, rfl, hMl⟩ := R8
        k_steps
        refine unstop ?_
        rename_i r8 n8b h8 t8 F8 N8 R8
        obtain ⟨az, dz, kz, rfl, hMz⟩ := R8
        k_steps
        refine unstop ?_
        rename_i r8 n8d h8 t8 F8 N8 R8
        obtain ⟨sq, ds, iss, ts, st', ks', rfl, hMs, hst', hfs⟩ := R8
        k_steps
        refine unstop ?_
        rename_i r8 n8c h8 t8 F8 N8 R8
        obtain ⟨y, dn, inn, tn, tt, kk, rfl, hMn, htt, hft⟩ := R8
        k_steps
        exact tree_l hJ mW2 hp off hMl hMz hMs hst' hfs hMn htt hft (by k_asm) (by k_asm)
      · intro ys3 l3 hJ
        obtain ⟨Tl, gT1, gT2, gT3, gT4, gT6, gT5⟩ := hJ
        have gTw : Tl.map (·.2) = ps.map (·.1) := by rw [gT2, List.take_of_length_le (by rw [hpn, q8]; exact Nat.le_refl _)]
        have gTn : Tl.length = 1 + n0 := by rw [← hpn, ← List.length_map (f := (·.1)) (as := ps), ← gTw, List.length_map]
        k_steps
        refine unstop ?_
        rename_i D3 hD3 tkD3 FD3 ND3 oD3
        refine' Does.use (law_chainN w _ D3 ys3 (Tl.map fun p => p.1.n) (by rw [gT1, List.map_map]; rfl) (by rw [List.length_map]; omega) (by rw [List.length_map]; omega) _ (Str.ofString "l") _ (.head _)) ?B9 ?F9 ?X9 ?N9 ?T9 ?k9 ?d9 ?u9 ?_
        (case N9 => k_asm); (case B9 => k_asm); (case F9 => k_asm); (case X9 => k_asm); (case T9 => k_asm); (case k9 => exact rfl); (case d9 => k_room); (case u9 => k_units)
        intro r11 n11 h11 t11 F11 N11 R11
        obtain ⟨xl, dl, idl, tnl, tl, kl, rfl, ⟨hxl, hdl, kpl, frl, frl2⟩, htl, hfl⟩ := R11
        (try dsimp only)
        (try k_fold)
        have kpl2 : ∀ z ∈ n10, z ∈ n11 := fun z hz => kpl z (.tail _ (gT5 z hz))
        have hxw1 := kpl2 _ hxw
        have hdw1 := kpl2 _ hdw
        have kall : ∀ z ∈ n9, z.1 ≠ st → z ∈ n11 := fun z hz hn => kpl2 _ (kpw2 _ (hT5 _ (kt z (.tail _ (q7 z hz hn)) hn)))
        have h38 : (389, tabObj #[]) ∈ n10 := kpw2 _ (hT5 _ (kt _ (.tail _ (q7 _ (m2 _ (by simp) ne8) ne8)) ne8))
        have h38b := kpl2 _ h38
        have hTsr : ∀ p ∈ Ts, p.1.s ≠ xw := fun p hp => Nat.ne_of_lt (Nat.lt_trans (frw _ (.tail _ (hT3 p hp).s)) frw2)
        have hTsrl : ∀ p ∈ Tl, p.1.s ≠ xl := fun p hp => Nat.ne_of_lt (Nat.lt_trans (frl _ (.tail _ (gT3 p hp).s)) frl2)
        have hl0 : ∀ z ∈ n10, z.1 < xl := fun z hz => Nat.lt_trans (frl _ (.tail _ (gT5 z hz))) frl2
        rw [List.map_map] at htw htl
        have htw1 := kpl2 _ htw
        k_steps
        refine unstop ?_
        rename_i hA oA FA NA lA loA hdA
        refine' DoesG.use (root_rsv w true (Str.ofString "w") (by decide) _ (fun a o o' h1 h2 => Option.some.inj ((NA _ h1).1.symm.trans (NA _ h2).1)) #[] (.tail _ h38b) (by first | exact trivial | exact .nil | decide | simp [TriplesOk]) xw dw tw kw _ idw tnw oA hdA (.head _) Ts (by omega) (by omega) (fun p hp => ((hT3 p hp).keep fun z hz => kpl2 _ (kpw2 _ hz)).keep fun z hz => .tail _ hz) (TrAt.ne hT4 hT6) hTsr (.tail _ hxw1) (.tail _ hdw1) (.tail _ htw1)) ?hf ?hk ?B9 ?F9 ?X9 ?N9 ?T9 ?d9 ?u9 ?_
        (case hf => exact rfl); (case hk => exact rfl); (case N9 => k_asm); (case B9 => k_asm); (case F9 => k_asm); (case X9 => k_asm); (case T9 => k_asm); (case d9 => k_room); (case u9 => k_units)
        intro r12 n12 h12 t12 gs12 F12 N12 K12 R12
        obtain ⟨rfl, ⟨ps12, h38c, hps12⟩, hW1, hW2, kp12⟩ := R12
        obtain ⟨hW, hTl, hxl2, hdl2, htl2⟩ := mid_rsv (n0 := n10) (fun a o o' h1 h2 => Option.some.inj ((NA _ h1).1.symm.trans (NA _ h2).1)) (.tail _ h38b) h38 (.tail _ hxw1) hxw (.tail _ hdw1) (fun p hp => ((hT3 p hp).keep fun z hz => kpl2 _ (kpw2 _ hz)).keep fun z hz => .tail _ hz) (fun p hp => (hT3 p hp).keep kpw2) (fun p hp => (((gT3 p hp).keep fun z hz => kpl _ (.tail _ hz)).keep fun z hz => .tail _ hz)) gT6 (.tail _ hxl) hl0 (.tail _ hdl) (.tail _ htl) hW1 hW2 kp12
        have kc12 := keepc (fun a o o' h1 h2 => Option.some.inj ((NA _ h1).1.symm.trans (NA _ h2).1)) (.tail _ h38b) (.tail _ hxw1) (.inl rfl) (fun p hp => ((hT3 p hp).keep fun z hz => kpl2 _ (kpw2 _ hz)).keep fun z hz => .tail _ hz) kp12
        (try dsimp only)
        (try k_fold)
        k_steps
        refine unstop ?_
        rename_i hB oB FB NB lB loB hdB
        refine' DoesG.use (root_rsv w false (Str.ofString "l") (by decide) _ (fun a o o' h1 h2 => Option.some.inj ((NB _ h1).1.symm.trans (NB _ h2).1)) ps12 (.tail _ h38c) hps12 xl dl tl kl _ idl tnl oB hdB (.head _) Tl (by omega) (by omega) (fun p hp => (hTl p hp).keep fun z hz => .tail _ hz) (TrAt.ne gT4 gT6) hTsrl (.tail _ hxl2) (.tail _ hdl2) (.tail _ htl2)) ?hf ?hk ?B9 ?F9 ?X9 ?N9 ?T9 ?d9 ?u9 ?_
        (case hf => exact rfl); (case hk => exact rfl); (case N9 => k_asm); (case B9 => k_asm); (case F9 => k_asm); (case X9 => k_asm); (case T9 => k_asm); (case d9 => k_room); (case u9 => k_units)
        intro r13 n13 h13 t13 gs13 F13 N13 K13 R13
        obtain ⟨rfl, ⟨ps13, h38d, hps13⟩, hL1, hL2, kp13⟩ := R13
        obtain ⟨hWn, hLn⟩ := end_rsv (n0 := n10) (fun a o o' h1 h2 => Option.some.inj ((NB _ h1).1.symm.trans (NB _ h2).1)) (.tail _ h38c) (hW.mono fun z hz => .tail _ hz) hxw (fun p hp => (hT3 p hp).keep kpw2) (fun p hp => (hTl p hp).keep fun z hz => .tail _ hz) gT6 (.tail _ hxl2) hl0 (.tail _ hdl2) hL1 hL2 kp13
        have kc13 := keepc (fun a o o' h1 h2 => Option.some.inj ((NB _ h1).1.symm.trans (NB _ h2).1)) (.tail _ h38c) (.tail _ hxl2) (.inr rfl) (fun p hp => (hTl p hp).keep fun z hz => .tail _ hz) kp13
        have kc : ∀ z ∈ n11, Out4 z.2 → z ∈ n13 := fun z hz hc => kc13 z (.tail _ (kc12 z (.tail _ hz) hc)) hc
        have mW3 : (D1, LCg.lst ys) ∈ n13 := kc _ (kpl2 _ mW2) ⟨(by intro e; cases e), (by intro e; cases e), (by intro e; cases e), (by intro e; cases e)⟩
        have kcell : ∀ z ∈ n7, z.1 ≠ 389 → z ∈ n13 := fun z hz hn => keepo kp13 z (.tail _ (keepo kp12 z (.tail _ (kpl2 _ (kpw2 _ (hT5 _ hz)))) hn (Nat.ne_of_lt (Nat.lt_trans (frw _ (.tail _ (hT5 _ hz))) frw2)) fun p hp => ⟨Nat.ne_of_lt (Nat.lt_trans ((hT6 p hp).2 _ hz) (hT6 p hp).1.ns.1), Nat.ne_of_lt (Nat.lt_trans ((hT6 p hp).2 _ hz) (hT6 p hp).1.ns.2)⟩)) hn (Nat.ne_of_lt (hl0 _ (kpw2 _ (hT5 _ hz)))) fun p hp => ⟨Nat.ne_of_lt (Nat.lt_trans ((gT6 p hp).2 _ (kpw2 _ (hT5 _ hz))) (gT6 p hp).1.ns.1), Nat.ne_of_lt (Nat.lt_trans ((gT6 p hp).2 _ (kpw2 _ (hT5 _ hz))) (gT6 p hp).1.ns.2)⟩
        have hc2 : (s₁.heap.objs.size + 1 + 1, c2) ∈ n13 := kcell _ (kt _ (.tail _ (q7 _ (m2 _ (by simp) ne2) ne2)) ne2) (Nat.ne_of_gt (Nat.lt_trans l0g.2 (Nat.lt_trans (Nat.lt_succ_self _) (Nat.lt_succ_self _))))
        have hc3 : (s₁.heap.objs.size + 1 + 1 + 1, c1) ∈ n13 := kcell _ (kt _ (.tail _ (q7 _ (m2 _ (by simp) ne3) ne3)) ne3) (Nat.ne_of_gt (Nat.lt_trans l0g.2 (Nat.lt_trans (Nat.lt_succ_self _) (Nat.lt_trans (Nat.lt_succ_self _) (Nat.lt_succ_self _)))))
        have h27 : (207, tabObj #[]) ∈ n13 := kcell _ (kt _ (.tail _ (q7 _ (m2 _ (by simp) ne7) ne7)) ne7) (by decide)
        clear kp12 kp13
        (try dsimp only)
        (try k_fold)
        have htx8 : tx.length ≤ 8 := by omega
        k_steps
        refine unstop ?_
        rename_i Df hDf FDf NDf lDf h14 n14 F14 N14 m14 k14
        have HL : Lay Ts Tl xw dw xl dl := ⟨fun p hp => ⟨(hT6 p hp).1, frw _ (.tail _ (hT3 p hp).s)⟩, hT4, frw2, fun p hp => ⟨(gT6 p hp).1, (gT6 p hp).2 _ hxw, frl _ (.tail _ (gT3 p hp).n)⟩, gT4, frl _ (.tail _ (gT5 _ hxw)), frl2⟩
        have hws1 : ∀ u ∈ ps.map (·.1), 1 ≤ u.length ∧ u.length ≤ 3 := fun u hu => by
          obtain ⟨p, hp, rfl⟩ := List.mem_map.mp hu
          exact hpl p hp
        have hOk := law_ok (t := tx) HL hTw gTw (by rw [List.length_map]; omega) (by rw [List.length_map]; omega) hws1 htx8
        have hS13 := law_stt (ws := ps.map (·.1)) (t := tx) HL (by decide) (by decide) hWn hLn
        have fDf : ∀ a o o', (a, o) ∈ _ → (a, o') ∈ _ → o = o' := fun a o o' h1 h2 => Option.some.inj ((NDf _ h1).1.symm.trans (NDf _ h2).1)
        have hS14 := Stt.cell (hS13.mono fun z hz => List.Mem.tail _ (List.Mem.tail _ hz)) fDf (.tail _ (.tail _ hc2)) d2 k14 m14
        have nc2 : ∀ a o, (a, o) ∈ n13 → NoCell o → a ≠ s₁.heap.objs.size + 1 + 1 := fun a o ho hn e => by
          subst e
          exact hn _ (fDf _ _ _ (.tail _ (.tail _ ho)) (.tail _ (.tail _ hc2)) ▸ d2)
        have hW14 := k14 _ (.tail _ (.tail _ mW3)) (nc2 _ _ mW3 (fun v q => nomatch q))
        have h3814 := k14 _ (.tail _ (.tail _ h38d)) (nc2 _ _ h38d (fun v q => nomatch q))
        have h2714 := k14 _ (.tail _ (.tail _ h27)) (nc2 _ _ h27 (fun v q => nomatch q))
        have hDf14 := k14 _ (.head _) (Nat.ne_of_gt (lDf _ (.tail _ hc2)))
        have hc314 := k14 _ (.tail _ (.tail _ hc3)) (Nat.ne_of_gt (Nat.lt_succ_self _))
        revert w s₀ s₁ mg mb
        conv => skip
        set_option tactic.hygienic false in intros
        refine wpAny_execs_cons ?_
        refine For_invVF F14 rfl rfl ?_
        k_steps
        rename_i hR tkR t1R u1R v1R isR FR NR keepR
        have hD21 : D1 ≠ Df := Nat.ne_of_lt (lDf _ (.tail _ mW3))
        have fR : ∀ a o o', (a, o) ∈ n14 → (a, o') ∈ n14 → o = o' := fun a o o' h1 h2 => Option.some.inj ((NR _ h1).1.symm.trans (NR _ h2).1)
        have c3n7 : (s₁.heap.objs.size + 1 + 1 + 1, c1) ∈ n7 := kt _ (.tail _ (q7 _ (m2 _ (by simp) ne3) ne3)) ne3
        have hcel : ∀ p ∈ Ts, s₁.heap.objs.size + 1 + 1 + 1 < p.1.ld := fun p hp => (hT6 p hp).2 _ c3n7
        have hcel2 : s₁.heap.objs.size + 1 + 1 + 1 < dw := frw _ (.tail _ (hT5 _ c3n7))
        have hdx3 : s₁.heap.objs.size + 1 + 1 + 1 ∉ (lawG (ps.map (·.1)) tx Ts Tl xw dw xl dl).dxs := fun h => Nat.lt_irrefl _ (dxs_gt HL hcel hcel2 _ h)
        have hdx2 : s₁.heap.objs.size + 1 + 1 ∉ (lawG (ps.map (·.1)) tx Ts Tl xw dw xl dl).dxs := fun h => Nat.lt_irrefl _ (dxs_gt HL (fun p hp => Nat.lt_trans (Nat.lt_succ_self _) (hcel p hp)) (Nat.lt_trans (Nat.lt_succ_self _) hcel2) _ h)
        have hLK : LK (s₁.heap.objs.size + 1 + 1) { c2 with data := .cell (some (.ref Df)) } (s₁.heap.objs.size + 1 + 1 + 1) Df (LCg.lst ys) (tabObj ps13) (tabObj #[]) := ⟨rfl, Nat.ne_of_lt (Nat.lt_succ_self _), (fun v q => nomatch q), rfl, rfl, (fun v q => nomatch q), (fun v q => nomatch q), rfl⟩
        have hJ0 : LJ (lawG (ps.map (·.1)) tx Ts Tl xw dw xl dl) (s₁.heap.objs.size + 1 + 1) { c2 with data := .cell (some (.ref Df)) } (s₁.heap.objs.size + 1 + 1 + 1) c1 Df D1 (LCg.lst ys) (tabObj ps13) (tabObj #[]) (fun _ => eS) 0 n14 :=
          ⟨hS14, ⟨_, _, hDf14, List.length_replicate, fun j hj => ⟨_, by rw [List.getElem?_replicate, if_pos (by rw [List.length_replicate] at hj; exact hj)]⟩⟩, m14, hc314, hW14, h3814, h2714⟩
        generalize ho2 : ({ c2 with data := .cell (some (.ref Df)) } : Obj) = o2 at hLK hJ0
        generalize hGG : lawG (ps.map (·.1)) tx Ts Tl xw dw xl dl = GG at *
        have hGt : GG.text = tx := by rw [← hGG]; rfl
        refine range_loopU [Str.ofString "word", Str.ofString "won", Str.ofString "lost"] (by rfl) isR (small_up2 (by omega)) (size_up2 _) FR NR (fun a => a = s₁.heap.objs.size + 1 + 1 + 1 ∨ a = Df ∨ a ∈ GG.dxs) ?hCh
          (fun i l => ∃ o3 v3, o3.data = .cell v3 ∧ LJ GG (s₁.heap.objs.size + 1 + 1) o2 (s₁.heap.objs.size + 1 + 1 + 1) o3 Df D1 (LCg.lst ys) (tabObj ps13) (tabObj #[]) (dnF (ps.map (·.1)) tx i) (2 * i) l) ?mono ?h0 ?turn ?done
        case hCh =>
          rintro a (rfl | rfl | ha)
          · exact ⟨_, hc314⟩
          · exact ⟨_, hDf14⟩
          · subst hGG
            obtain ⟨o, h1, _⟩ := dxs_in hS14 a ha
            exact ⟨o, h1⟩
        case mono =>
          rintro I hI i n n' ⟨o3, v3, hd3, hJ⟩ k
          exact ⟨o3, v3, hd3, hJ.aside (hJ0.below hI) k⟩
        case h0 =>
          exact ⟨c1, _, d1, hJ0.same fun j hj => if_neg (by rw [hGt] at hj; omega)⟩
        case turn =>
          rintro i tki u n₁ hT tkT hi ⟨o3, v3, hd3, hJ⟩ FT NT
          have fT : ∀ a o o', (a, o) ∈ n₁ → (a, o') ∈ n₁ → o = o' := fun a o o' h1 h2 => Option.some.inj ((NT _ h1).1.symm.trans (NT _ h2).1)
          have hc3T := hJ.c3
          k_steps
          refine unstop ?_
          rename_i hP nP FP NP mP kP
          obtain ⟨p, hp⟩ : ∃ p : Nat, (tx.length : Int) - (i : Int) = (p : Int) := ⟨tx.length - i, by omega⟩
          have hJP := hJ.place hLK fT hd3 kP mP
          have fP : ∀ a o o', (a, o) ∈ nP → (a, o') ∈ nP → o = o' := fun a o o' h1 h2 => Option.some.inj ((NP _ h1).1.symm.trans (NP _ h2).1)
          rw [hp] at hJP
          have hpi : p + i = tx.length := by omega
          generalize ho3 : ({ o3 with data := .cell (some (.int (p : Int) _)) } : Obj) = o3' at hJP
          have hd3' : ∃ tp, o3'.data = .cell (some (.int (p : Int) tp)) := ⟨_, by rw [← ho3]⟩
          clear ho3
          obtain ⟨tp, hd3p⟩ := hd3'
          refine wpAny_execs_cons ?_
          refine For_invVF FP rfl rfl ?_
          k_steps
          have hps1 : ∀ q ∈ ps.map (·.1), 1 ≤ q.length := fun q hq => (hws1 q hq).1
          have hJP0 := hJP.same (g := stF (ps.map (·.1)) tx i p 0) fun j _ => st_start hpi j
          refine list_loopU [] (by rfl) hJP.wd FP NP (fun a => a = Df) ?hCh2 (fun k l => LJ GG (s₁.heap.objs.size + 1 + 1) o2 (s₁.heap.objs.size + 1 + 1 + 1) o3' Df D1 (LCg.lst ys) (tabObj ps13) (tabObj #[]) (stF (ps.map (·.1)) tx i p k) (2 * i) l ∧ ∀ z ∈ nP, z.1 ≠ Df → z ∈ l) ?mono2 ⟨hJP0, fun z hz _ => hz⟩ ?turn2 ?done2
          case hCh2 =>
            rintro a rfl
            obtain ⟨_, _, hi1, _⟩ := hJP.fst
            exact ⟨Ne.symm hD21, _, hi1⟩
          case mono2 =>
            rintro I hI k n n' hJ k2
            exact ⟨hJ.1.aside (hJP.below hI) k2, fun z hz hn => k2 z (hJ.2 z hz hn) (.inr (Nat.ne_of_lt (hI z hz)))⟩
          case turn2 =>
            rintro k v u2 n₂ hT2 tkT2 hk ⟨hJ2, hK2⟩ FT2 NT2
            obtain ⟨pw, hpw, rfl⟩ := words_at (i := k) hps (by simpa using hk)
            obtain ⟨wd, tkw⟩ := pw
            dsimp only at FT2
            obtain ⟨its, kk, hi1, hi2, hi3⟩ := hJ2.fst
            have d2' := hLK.c2
            have hc2' := hJ2.c2
            have hc3' := hJ2.c3
            have hil : its.length = tx.length + 1 := by rw [hi2, hGt]
            k_steps
            refine unstop ?_
            refine item_fw p st_at (by k_asm) hi1 hi3 rfl (by omega) (by omega) ?_
            intro tkA
            have hwd : (ps.map (·.1))[k]? = some wd := by rw [List.getElem?_map, hpw]; rfl
            have hwd1 := hws1 wd (List.mem_of_getElem? hwd)
            have hwl : wd.length ≤ 100 := by omega
            have hptx : p ≤ tx.length := by omega
            have fT2 : ∀ a o o', (a, o) ∈ n₂ → (a, o') ∈ n₂ → o = o' := fun a o o' h1 h2 => Option.some.inj ((NT2 _ h1).1.symm.trans (NT2 _ h2).1)
            k_steps
            case _ =>
              have hsl : (Txt.slice tx (some (p : Int)) (some ((p : Int) + (wd.length : Int))) == wd) = true := by assumption
              have hcu : (cur (ps.map (·.1)) tx p k == eS) = true := by assumption
              have hsw := sw_yes hptx hsl
              have hswl := sw_le hsw
              refine unstop ?_
              refine item_fw (p + wd.length) (st_up hpi hwd1.1) (by k_asm) hi1 hi3 (Int.natCast_add _ _).symm (by omega) (by omega) ?_
              intro tkB
              k_steps
              case _ =>
                have hfw : ((fw (ps.map (·.1)) tx (p + wd.length)).getD eS == eS) = true := by assumption
                refine unstop ?_
                refine set_led (p := p) (by k_asm) (by k_asm) hi1 (by omega) (by omega) ?_
                intro h5 n5 F5 N5 m5 k5
                k_steps
                exact turnC_next F5 N5 (fun z hz hn => k5 z hz hn) ⟨fun z h1 _ => if_neg h1, hJ2.write hD21 hLK fT2 hd3p k5 hi1 m5 fun j => st_hit hps1 hwd (eq_of_beq hcu) (fits_yes hps1 hsw hfw) j, fun z hz hn => k5 z (hK2 z hz hn) hn⟩
              have hfw : ((fw (ps.map (·.1)) tx (p + wd.length)).getD eS == eS) = false := by assumption
              exact turnC_next (by assumption) (by assumption) (fun z hz _ => hz) ⟨fun z h1 _ => if_neg h1, hJ2.same fun j _ => st_keep hwd (.inr (fits_no2 hfw)) j, hK2⟩
            case _ =>
              have hsl : (Txt.slice tx (some (p : Int)) (some ((p : Int) + (wd.length : Int))) == wd) = false := by assumption
              exact turnC_next (by assumption) (by assumption) (fun z hz _ => hz) ⟨fun z h1 _ => if_neg h1, hJ2.same fun j _ => st_keep hwd (.inr (fits_no hptx hsl)) j, hK2⟩
            have hcu : (cur (ps.map (·.1)) tx p k == eS) = false := by assumption
            exact turnC_next (by assumption) (by assumption) (fun z hz _ => hz) ⟨fun z h1 _ => if_neg h1, hJ2.same fun j _ => st_keep hwd (.inl (ne_eS hcu)) j, hK2⟩
          case done2 =>
            rintro u2 n₂ hT2 tkT2 ⟨hJ2, hK2⟩ FT2 NT2
            dsimp only
            have hwlen : ys.length = (ps.map (·.1)).length := by rw [List.length_map, hpn, q8]
            have hJ3 := hJ2.same (g := dnF (ps.map (·.1)) tx (i + 1)) fun j _ => st_end hps1 hpi hwlen j
            clear hJ2 hJP0
            have hptx : p ≤ tx.length := by omega
            have hxwG : xw ∈ GG.xs := by rw [← hGG]; exact law_xw HL
            have hxlG : xl ∈ GG.xs := by rw [← hGG]; exact law_xl HL
            have hdenw : GG.den xw p = (fw (ps.map (·.1)) tx p).map fun w => p + w.length := by rw [← hGG]; exact den_w HL p
            have hdenl : GG.den xl p = if (fw (ps.map (·.1)) tx p).isSome then none else some p := by rw [← hGG]; exact den_l HL p
            have d2' := hLK.c2
            have hc2' := hJ3.c2
            have hc3' := hJ3.c3
            k_steps
            refine unstop ?_
            refine' DoesTop.use (law_matched_at w GG hOk xw p (2 * i) hxwG tx hGt hptx _ _ _ (by omega) hJ3.stt) ?B9 ?F9 ?X9 ?N9 ?T9 ?k9 ?d9 ?u9 ?_
            (case N9 => k_asm); (case B9 => k_asm); (case F9 => k_asm); (case X9 => k_asm); (case T9 => k_asm); (case k9 => exact rfl); (case d9 => k_room); (case u9 => k_units)
            intro r5 n5 h5 t5 F5 N5 R5
            obtain ⟨is5, k5, l5, rfl, m5, S5, K5, D5⟩ := R5
            have hJ5 := hJ3.matched hLK hdx2 hdx3 S5 K5
            rw [hdenw] at D5
            clear hc2' hc3'
            have hc2' := hJ5.c2
            have hc3' := hJ5.c3
            (try dsimp only)
            (try k_fold)
            k_steps
            refine unstop ?_
            refine' DoesTop.use (law_matched_at w GG hOk xl p (2 * i + 1) hxlG tx hGt hptx _ _ _ (by omega) hJ5.stt) ?B9 ?F9 ?X9 ?N9 ?T9 ?k9 ?d9 ?u9 ?_
            (case N9 => k_asm); (case B9 => k_asm); (case F9 => k_asm); (case X9 => k_asm); (case T9 => k_asm); (case k9 => exact rfl); (case d9 => k_room); (case u9 => k_units)
            intro r6 n6 h6 t6 F6 N6 R6
            obtain ⟨is6, k6, l6, rfl, m6, S6, K6, D6⟩ := R6
            have hJ6 := hJ5.matched hLK hdx2 hdx3 S6 K6
            rw [hdenl] at D6
            clear hc2' hc3'
            have hc2' := hJ6.c2
            have hc3' := hJ6.c3
            have m56 := K6 _ m5 (.inl ne_list)
            (try dsimp only)
            (try k_fold)
            obtain ⟨its, kk, hi1, hi2, hi3⟩ := hJ6.fst
            have hil : its.length = tx.length + 1 := by rw [hi2, hGt]
            have hdn : dnF (ps.map (·.1)) tx (i + 1) p = (fw (ps.map (·.1)) tx p).getD eS := if_pos (by omega)
            cases hfw : fw (ps.map (·.1)) tx p with
            | none =>
              rw [hfw] at D5 D6 hdn
              obtain ⟨nd, rfl, hN⟩ := D6
              have D5 : is5 = [] := D5
              subst D5
              k_steps
              refine unstop ?_
              refine item_fw p (y := eS) hdn (by k_asm) (.tail _ hi1) hi3 rfl (by omega) (by omega) ?_
              intro tkA
              k_steps
              refine unstop ?_
              k_dflt (refine LCg.ListComp_U (F₀ := by k_asm) (by with_unfolding_all rfl) (by decide) (by rfl) (by decide) (by rfl) ?_)
              k_steps
              refine unstop ?_
              refine LCg.CompSrc.ledger (by rfl) (by k_asm) (by k_asm) (by k_mem) (by decide) ?_
              intro g5
              refine comp_inv (SameJ _ fun y => y = .bool false) _ ?_ ?_ (SameJ.start ..)
              · intro i ys l v I oI C oC D m₂ h tk E' hi'
                exact absurd hi' (Nat.not_lt_zero _)
              intro ys l hJl
              obtain ⟨jl1, jl2, jl3⟩ := hJl
              have jl2 : ys = [] := List.eq_nil_of_length_eq_zero jl2
              subst jl2
              clear jl3
              have m66 := jl1 _ (.tail _ (.tail _ m6))
              have hJ7 := hJ6.mono fun z hz => jl1 z (.tail _ (.tail _ hz))
              obtain ⟨items, ⟨dx1, ch1, tt1, tp1, tq1, kk1, od1, -, -, hb11, hb12, -⟩, -, -⟩ := hN
              have gb11 := jl1 _ (.tail _ (.tail _ hb11))
              have gb12 := jl1 _ (.tail _ (.tail _ hb12))
              clear hc2' hc3'
              have hc2' := hJ7.c2
              have hc3' := hJ7.c3
              k_steps
              refine unstop ?_
              k_dflt (refine LCg.ListComp_U (F₀ := by k_asm) (by with_unfolding_all rfl) (by decide) (by rfl) (by decide) (by rfl) ?_)
              k_steps
              refine unstop ?_
              refine LCg.CompSrc.ledger (by rfl) (by k_asm) (by k_asm) (by k_mem) (by rw [List.size_toArray, sizeLine_eq]; exact Nat.le_of_ble_eq_true rfl) ?_
              intro g6
              refine comp_inv (SameJ _ fun y => y = .bool false) _ ?_ ?_ (SameJ.start ..)
              · intro i ys l v I oI C oC D m₂ h tk E' hi' hJ hP hC hx F' N' off ne'
                obtain rfl : i = 0 := Nat.lt_one_iff.mp hi'
                obtain rfl : v = .ref nd := (Option.some.inj hP).symm
                have hb11 := hJ.1 _ (.tail _ gb11)
                have hb12 := hJ.1 _ (.tail _ gb12)
                have hc2' := hJ.1 _ (.tail _ hc2')
                have hc3' := hJ.1 _ (.tail _ hc3')
                k_steps
                exact hJ.post off rfl (by assumption) (by assumption) (by intro z hz; exact .tail _ (.tail _ hz)) (.tail _ m66)
              intro ys l hJl
              have jl4 := hJl.1
              obtain rfl := hJl.one rfl
              clear hJl
              k_steps
              refine turnC_next (by assumption) (by assumption) (fun z hz hn => ?_) ⟨fun z h1 h2 => frameL3 h1 h2, o3', _, hd3p, hJ7.mono fun z hz => .tail _ (jl4 z (.tail _ hz))⟩
              have hn1 : z.1 ≠ s₁.heap.objs.size + 1 + 1 + 1 := fun e => hn (.inl e)
              have hn2 : z.1 ≠ Df := fun e => hn (.inr (.inl e))
              have hn3 : z.1 ∉ GG.dxs := fun e => hn (.inr (.inr e))
              exact .tail _ (jl4 z (.tail _ (jl1 z (.tail _ (.tail _ (K6 z (K5 z (hK2 z (kP z hz hn1) hn2) (.inr hn3)) (.inr hn3)))))))
            | some wd =>
              rw [hfw] at D5 D6 hdn
              obtain ⟨nd, rfl, hN⟩ := D5
              have D6 : is6 = [] := D6
              subst D6
              have hwne : (wd == Str.ofString "") = false := by
                cases e : wd == Str.ofString "" with
                | false => rfl
                | true =>
                  have h1 := hps1 _ (fw_mem hps1 hfw).1
                  have h2 : wd.length = 0 := congrArg Str.length (eq_of_beq e)
                  omega
              have hwne2 : (wd != Str.ofString "") = true := by unfold bne; rw [hwne]; rfl
              have hNW : ∃ wd' nc c r1 nl lt r2 r3, fw (ps.map (·.1)) tx p = some wd' ∧ NodeB GG.dxs n6 nd xw tx p ((p + wd.length : Nat) : Int) (.ref nc :: r1) ∧ NodeB GG.dxs n6 nc c tx p ((p + wd.length : Nat) : Int) (.ref nl :: r2) ∧ NodeB GG.dxs n6 nl lt tx p ((p + wd'.length : Nat) : Int) r3 := by
                subst hGG
                exact won_node HL hTw hps1 (hN.map fun _ _ _ _ _ b => b.kept K6)
              obtain ⟨wd', nc, cc, r1, nl, lt, r2, r3, hfw', hB1, hB2, hB3⟩ := hNW
              have hww := Option.some.inj (hfw'.symm.trans hfw)
              subst hww
              obtain ⟨dx1, ch1, tt1, tp1, tq1, kk1, od1, -, -, hb11, hb12, hb13⟩ := hB1
              obtain ⟨dx2, ch2, tt2, tp2, tq2, kk2, od2, -, -, hb21, hb22, hb23⟩ := hB2
              obtain ⟨dx3, ch3, tt3, tp3, tq3, kk3, od3, -, -, hb31, hb32, -⟩ := hB3
              clear hN
              have hsl : Txt.slice tx (some (p : Int)) (some ((p + wd'.length : Nat) : Int)) = wd' := by
                have h1 := (fw_mem hps1 hfw).2
                unfold fits at h1
                rw [Bool.and_eq_true] at h1
                exact (slice_word hptx).mpr h1.1
              have hself : (wd' != wd') = false := bne_self_eq_false _
              have hwl : wd'.length ≤ 100 := by
                have h1 := (hws1 _ (fw_mem hps1 hfw).1).2
                omega
              k_steps
              refine unstop ?_
              refine item_fw p (y := wd') hdn (by k_asm) (.tail _ hi1) hi3 rfl (by omega) (by omega) ?_
              intro tkA
              k_steps
              refine unstop ?_
              k_dflt (refine LCg.ListComp_U (F₀ := by k_asm) (by with_unfolding_all rfl) (by decide) (by rfl) (by decide) (by rfl) ?_)
              k_steps
              refine unstop ?_
              refine LCg.CompSrc.ledger (by rfl) (by k_asm) (by k_asm) (by k_mem) (by rw [List.size_toArray, sizeLine_eq]; exact Nat.le_of_ble_eq_true rfl) ?_
              intro g5
              refine comp_inv (SameJ _ fun y => y = .bool false) _ ?_ ?_ (SameJ.start ..)
              · intro i ys l v I oI C oC D m₂ h tk E' hi' hJ hP hC hx F' N' off ne'
                obtain ⟨j1, j2, j3⟩ := hJ
                obtain rfl : i = 0 := Nat.lt_one_iff.mp hi'
                obtain rfl : v = .ref nd := (Option.some.inj hP).symm
                have gb11 := j1 _ (.tail _ (.tail _ hb11))
                have gb12 := j1 _ (.tail _ (.tail _ hb12))
                have gb13 := j1 _ (.tail _ (.tail _ hb13))
                have gb21 := j1 _ (.tail _ (.tail _ hb21))
                have gb22 := j1 _ (.tail _ (.tail _ hb22))
                have gb23 := j1 _ (.tail _ (.tail _ hb23))
                have gb31 := j1 _ (.tail _ (.tail _ hb31))
                have gb32 := j1 _ (.tail _ (.tail _ hb32))
                have hc2' := j1 _ (.tail _ (.tail _ hc2'))
                have hc3' := j1 _ (.tail _ (.tail _ hc3'))
                have gi1 := j1 _ (.tail _ (.tail _ hi1))
                k_steps
                refine unstop ?_
                refine item_at9 0 (by k_asm) (.tail _ (.tail _ (.tail _ gb13))) rfl rfl (by omega) ?_
                k_steps
                refine unstop ?_
                refine item_at9 0 (by k_asm) (.tail _ (.tail _ (.tail _ gb23))) rfl rfl (by omega) ?_
                k_steps
                refine unstop ?_
                refine' Does.use (text_prop w _ nl dx3 ch3 lt tx tt3 _ _ tp3 tq3 od3 (by omega) (.tail _ (.tail _ (.tail _ gb31))) (.tail _ (.tail _ (.tail _ gb32)))) ?B9 ?F9 ?X9 ?N9 ?T9 ?k9 ?d9 ?u9 ?_
                (case N9 => k_asm); (case B9 => k_asm); (case F9 => k_asm); (case X9 => k_asm); (case T9 => k_asm); (case k9 => exact rfl); (case d9 => k_room); (case u9 => k_units)
                intro r9 n9 h9 t9 F9 N9 R9
                rw [hsl] at R9
                obtain ⟨⟨tk9, rfl⟩, K9⟩ := R9
                (try dsimp only)
                (try k_fold)
                have gc2 := K9 _ (.tail _ (.tail _ (.tail _ hc2')))
                have gc3 := K9 _ (.tail _ (.tail _ (.tail _ hc3')))
                have gi2 := K9 _ (.tail _ (.tail _ (.tail _ gi1)))
                have gb15 := K9 _ (.tail _ (.tail _ (.tail _ gb11)))
                have gb16 := K9 _ (.tail _ (.tail _ (.tail _ gb12)))
                have gIo := K9 _ (.head _)
                have gCo := K9 _ (.tail _ (.head _))
                have gDo := K9 _ (.tail _ (.tail _ (.head _)))
                k_steps
                refine unstop ?_
                refine item_fw p (y := wd') hdn (by k_asm) gi2 hi3 rfl (by omega) (by omega) ?_
                intro tkD
                k_steps
                refine unstop ?_
                refine item_fw p (y := wd') hdn (by k_asm) gi2 hi3 rfl (by omega) (by omega) ?_
                intro tkE
                k_steps
                exact SameJ.post ⟨j1, j2, j3⟩ off (by rw [Int.natCast_add, bne_self_eq_false]) (by assumption) (by assumption) (by intro z hz; exact K9 z hz) (.tail _ (.tail _ m56))
              intro ys l hJl
              have jl1 := hJl.1
              obtain rfl := hJl.one rfl
              clear hJl
              k_steps
              refine unstop ?_
              k_dflt (refine LCg.ListComp_U (F₀ := by k_asm) (by with_unfolding_all rfl) (by decide) (by rfl) (by decide) (by rfl) ?_)
              have m66 := jl1 _ (.tail _ (.tail _ m6))
              have hJ7 := hJ6.mono fun z hz => jl1 z (.tail _ (.tail _ hz))
              k_steps
              refine unstop ?_
              refine LCg.CompSrc.ledger (by rfl) (by k_asm) (by k_asm) (by k_mem) (by decide) ?_
              intro g6
              refine comp_inv (SameJ _ fun y => y = .bool false) _ ?_ ?_ (SameJ.start ..)
              · intro i ys l v I oI C oC D m₂ h tk E' hi'
                exact absurd hi' (Nat.not_lt_zero _)
              intro ys l hJl
              have jl4 := hJl.1
              obtain rfl : ys = [] := List.eq_nil_of_length_eq_zero hJl.2.1
              clear hJl
              k_steps
              refine turnC_next (by assumption) (by assumption) (fun z hz hn => ?_) ⟨fun z h1 h2 => frameL3 h1 h2, o3', _, hd3p, hJ7.mono fun z hz => .tail _ (jl4 z (.tail _ hz))⟩
              have hn1 : z.1 ≠ s₁.heap.objs.size + 1 + 1 + 1 := fun e => hn (.inl e)
              have hn2 : z.1 ≠ Df := fun e => hn (.inr (.inl e))
              have hn3 : z.1 ∉ GG.dxs := fun e => hn (.inr (.inr e))
              exact .tail _ (jl4 z (.tail _ (jl1 z (.tail _ (.tail _ (K6 z (K5 z (hK2 z (kP z hz hn1) hn2) (.inr hn3)) (.inr hn3)))))))
        case done =>
          rintro u n₁ hT tkT ⟨o3, v3, hd3, hJ⟩ FT NT
          dsimp only
          have hps1 : ∀ q ∈ ps.map (·.1), 1 ≤ q.length := fun q hq => (hws1 q hq).1
          have hxwG : xw ∈ GG.xs := by rw [← hGG]; exact law_xw HL
          have hdenw : GG.den xw 0 = (fw (ps.map (·.1)) tx 0).map fun w => 0 + w.length := by rw [← hGG]; exact den_w HL 0
          k_steps
          refine unstop ?_
          refine' DoesTop.use (law_whole_at w GG hOk xw (2 * (tx.length + 1)) hxwG tx hGt _ _ (by omega) hJ.stt) ?B9 ?F9 ?X9 ?N9 ?T9 ?k9 ?d9 ?u9 ?_
          (case N9 => k_asm); (case B9 => k_asm); (case F9 => k_asm); (case X9 => k_asm); (case T9 => k_asm); (case k9 => exact rfl); (case d9 => k_room); (case u9 => k_units)
          intro r5 n5 h5 t5 F5 N5 R5
          obtain ⟨⟨tk5, e5⟩, K5⟩ := R5
          rw [hdenw] at e5
          generalize hX : wholeV ((fw (ps.map (·.1)) tx 0).map fun w => 0 + w.length) tx.length = X at e5
          subst e5
          obtain ⟨its, kk, hi0, hi2, hi3⟩ := hJ.fst
          have hi1 := K5 _ hi0 (.inl ne_list)
          have h389 := K5 _ hJ.t8 (.inl (by intro e; cases e))
          have h207 := K5 _ hJ.t7 (.inl (by intro e; cases e))
          have hbare : AllBare gs13 := K13.2 (K12.2 (.of_eq hg))
          have hil : its.length = tx.length + 1 := by rw [hi2, hGt]
          have hdn : dnF (ps.map (·.1)) tx (tx.length + 1) 0 = (fw (ps.map (·.1)) tx 0).getD eS := if_pos (by omega)
          have d2' := hLK.c2
          have hc2' := K5 _ hJ.c2 (.inr hdx2)
          have hc3' := K5 _ hJ.c3 (.inr hdx3)
          (try dsimp only)
          (try k_fold)
          cases hfw : fw (ps.map (·.1)) tx 0 with
          | none =>
            rw [hfw] at hdn hX
            obtain rfl : -1 = X := hX
            k_steps
            refine unstop ?_
            refine item_fw 0 (y := eS) hdn (by k_asm) hi1 hi3 rfl (by omega) (by omega) ?_
            intro tkA
            k_steps
            refine unstop ?_
            refine PyProof.Rows.eq_int ?_
            (try dsimp only)
            have hE : GrownAll [(211, 207), (393, 389)] h5 := ⟨GrownAt.of N5 h207, GrownAt.of N5 h389, trivial⟩
            refine law_end F5 hbare hE ?_ (fun _ => rfl) (by with_unfolding_all rfl)
            exact (by decide)
          | some wd =>
            rw [hfw] at hdn
            have hwd1 := hws1 _ (fw_mem hps1 hfw).1
            have hwne2 : (wd != Str.ofString "") = true := by
              cases e : wd != Str.ofString "" with
              | true => rfl
              | false =>
                have e1 : wd = Str.ofString "" := by simpa [bne] using e
                have h2 : wd.length = 0 := congrArg Str.length e1
                omega
            have hwt : (wd == tx) = decide (0 + wd.length = tx.length) := by
              have h1 := (fw_mem hps1 hfw).2
              unfold fits at h1
              rw [Bool.and_eq_true] at h1
              have h2 := (slice_word (Nat.zero_le _)).mpr h1.1
              by_cases e : 0 + wd.length = tx.length
              · rw [decide_eq_true e]
                rw [e, slice_self] at h2
                rw [← h2, beq_self_eq_true]
              · rw [decide_eq_false e]
                cases e2 : wd == tx with
                | false => rfl
                | true => exact absurd (congrArg Str.length (eq_of_beq e2)) (by omega)
            rw [hfw] at hX
            by_cases hwl : 0 + wd.length = tx.length
            · rw [decide_eq_true hwl] at hwt
              obtain rfl : (tx.length : Int) = X := by
                rw [← hX]
                show _ = (if _ then _ else _)
                rw [if_pos hwl]
                exact (congrArg Nat.cast hwl).symm
              have htl : tx.length ≤ 100 := by omega
              k_steps
              refine unstop ?_
              refine item_fw 0 (y := wd) hdn (by k_asm) hi1 hi3 rfl (by omega) (by omega) ?_
              intro tkA
              k_steps
              refine unstop ?_
              refine item_fw 0 (y := wd) hdn (by k_asm) hi1 hi3 rfl (by omega) (by omega) ?_
              intro tkB
              k_steps
              refine unstop ?_
              refine PyProof.Rows.eq_int ?_
              (try dsimp only)
              have hE : GrownAll [(211, 207), (393, 389)] h5 := ⟨GrownAt.of N5 h207, GrownAt.of N5 h389, trivial⟩
              refine law_end F5 hbare hE ?_ (fun _ => rfl) (by with_unfolding_all rfl)
              exact beq_self_eq_true _
            · rw [decide_eq_false hwl] at hwt
              obtain rfl : -1 = X := (if_neg hwl).symm.trans hX
              k_steps
              refine unstop ?_
              refine item_fw 0 (y := wd) hdn (by k_asm) hi1 hi3 rfl (by omega) (by omega) ?_
              intro tkA
              k_steps
              refine unstop ?_
              refine item_fw 0 (y := wd) hdn (by k_asm) hi1 hi3 rfl (by omega) (by omega) ?_
              intro tkB
              k_steps
              refine unstop ?_
              refine PyProof.Rows.eq_int ?_
              (try dsimp only)
              have hE : GrownAll [(211, 207), (393, 389)] h5 := ⟨GrownAt.of N5 h207, GrownAt.of N5 h389, trivial⟩
              refine law_end F5 hbare hE ?_ (fun _ => rfl) (by with_unfolding_all rfl)
              exact (by decide))
end
end Mine
theorem PySem.Challenge.cw_vj0022_01_holds : PySem.Challenge.rw_vj0022_01.Holds :=
  Mine.law9
