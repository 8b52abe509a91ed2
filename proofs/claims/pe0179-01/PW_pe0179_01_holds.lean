import PyProof.Rows.All
import Wide.All
import OpenK.AllK
import Wide.FinOn
import PySem.Challenge.RW_pe0179_01
set_option Elab.async false
set_option maxRecDepth 100000
set_option maxHeartbeats 8000000
section
open PySem PySem.W PyProof.Rows
namespace Mine
open_top hd for PySem.Challenge.rw_pe0179_01
end Mine
end
section
open PySem PySem.W PyProof.Rows
namespace Mine
theorem fresh_Base1 : True := by
  k_with_none
  w_top off
  trivial
theorem cps {G : Prop} (f : ∀ C : Prop, (G → C) → C) : G := f G id
theorem fmN {α : Type} {P : α → Prop} : ∀ x ∈ ([] : List α), P x := fun _ h => nomatch h
theorem fmC {α : Type} {P : α → Prop} {a : α} {l : List α} (h : P a) (t : ∀ x ∈ l, P x) : ∀ x ∈ a :: l, P x := List.forall_mem_cons.mpr ⟨h, t⟩
theorem sbAt {α : Type} {A B : List α} {p : α} (h : ∀ q ∈ A, q ∈ B) (hp : p ∈ A) : p ∈ B := h p hp
theorem sbN {α : Type} {B : List α} : ∀ p ∈ ([] : List α), p ∈ B := fun _ h => nomatch h
theorem sbC {α : Type} {x : α} {A B : List α} (h : x ∈ B) (t : ∀ p ∈ A, p ∈ B) : ∀ p ∈ x :: A, p ∈ B := List.forall_mem_cons.mpr ⟨h, t⟩
theorem sbA {α : Type} {A C B : List α} (h : ∀ p ∈ A, p ∈ B) (t : ∀ p ∈ C, p ∈ B) : ∀ p ∈ A ++ C, p ∈ B := fun p hp => (List.mem_append.mp hp).elim (h p) (t p)
theorem sbR {α : Type} {A : List α} : ∀ p ∈ A, p ∈ A := fun _ h => h
theorem sbT {α : Type} {x : α} {A B : List α} (t : ∀ p ∈ A, p ∈ B) : ∀ p ∈ A, p ∈ x :: B := fun p h => .tail _ (t p h)
theorem sbL {α : Type} {A B C : List α} (t : ∀ p ∈ A, p ∈ B) : ∀ p ∈ A, p ∈ B ++ C := fun p h => List.mem_append_left _ (t p h)
theorem sbG {α : Type} {A B C : List α} (t : ∀ p ∈ A, p ∈ C) : ∀ p ∈ A, p ∈ B ++ C := fun p h => List.mem_append_right _ (t p h)
theorem smH {α : Type} {x : α} {B : List α} : x ∈ x :: B := .head _
theorem smT {α : Type} {x y : α} {B : List α} (h : x ∈ B) : x ∈ y :: B := .tail _ h
theorem smL {α : Type} {x : α} {B C : List α} (h : x ∈ B) : x ∈ B ++ C := List.mem_append_left _ h
theorem smG {α : Type} {x : α} {B C : List α} (h : x ∈ C) : x ∈ B ++ C := List.mem_append_right _ h
noncomputable abbrev LooseL : List Str := [Str.ofString "Whitespace", Str.ofString "_twin_re_1", Str.ofString "_twin_re_2", Str.ofString "_sre", Str.ofString "_wall", Str.ofString "quotedata", Str.ofString "_fix_eols", Str.ofString "_law_heard", Str.ofString "_law_lead", Str.ofString "_law_column", Str.ofString "law", Str.ofString "CRLF", Str.ofString "_netrclex"]
noncomputable abbrev PClaim (w : World) (mean : ExcName → Option Value) (mg mb : Str → Option Value) (f : Addr) (own : List (Addr × Obj)) (pre : Prop) (vs : List Value) (nd nu : Nat) (R : Tok → Value) : Prop :=
  ∀ (dp un : Nat) (gd : Option (List Code)) (cn : Str) (cs : Scope) (a : Addr) (ccd : Value) (cl : List (Str × Addr)) (outer : List Env) (A₀ : Around) (base h₀ : Heap) (L : Addr) (m : Str → Option Value) (s : Shared) (Q E : Value → Shared → Prop) (news : List (Addr × Obj)),
    Below A₀ base outer h₀ → Fr h₀ L s.heap m → (hd.heap_39 w.params).In h₀ → News h₀ L s.heap news → Top topProg LooseL mean mg mb h₀ → cs.kind = .function →
    (∀ p ∈ own, p ∈ news) → pre → dp + nd < recursionLimit → un + nu < cLine →
    (∀ (t : Tok) (h' : Heap) (tk' : Nat), Fr h₀ L h' m → News h₀ L h' news → Q (R t) { s with heap := h', toks := tk' }) →
      wpAny (model Challenge.rw_pe0179_01.row.prog w) (ktrTop dp un gd cn cs L a ccd cl outer) (call (.ref f) vs) Q E s
theorem news_app {h₀ h : Heap} {L : Addr} {own news : List (Addr × Obj)} (N : News h₀ L h news) (hs : ∀ p ∈ own, p ∈ news) : News h₀ L h (own ++ news) :=
  fun p hp => (List.mem_append.mp hp).elim (fun q => N p (hs p q)) (fun q => N p q)
theorem news_sub {h₀ h : Heap} {L : Addr} {own news : List (Addr × Obj)} (N : News h₀ L h (own ++ news)) : News h₀ L h news := fun p hp => N p (List.mem_append_right _ hp)
/-- the ledger of a Whitespace -/
structure WsT where
  x : Addr
  dx : Addr
  nm : Addr
  ct : Addr
  t0 : Tok
  t1 : Tok
  t2 : Tok
  t3 : Tok
  t4 : Tok
  t5 : Tok
  t6 : Tok
  t7 : Tok
  t8 : Tok
  raw : Str
  n : Int
  nt : Int
  simple : Bool
  b : Int
  vs : List Value
noncomputable abbrev WsT.objs (P : Params) (W : WsT) : List (Addr × Obj) :=
  [(W.x, instObj 100 W.dx), (W.dx, dictOf [⟨PyData.keyHash P (Str.ofString "raw"), .str (Str.ofString "raw") W.t0, .str W.raw W.t1⟩, ⟨PyData.keyHash P (Str.ofString "n"), .str (Str.ofString "n") W.t2, .int W.n W.t3⟩,
     ⟨PyData.keyHash P (Str.ofString "nt"), .str (Str.ofString "nt") W.t4, .int W.nt W.t5⟩, ⟨PyData.keyHash P (Str.ofString "norm"), .str (Str.ofString "norm") W.t6, .ref W.nm⟩, ⟨PyData.keyHash P (Str.ofString "is_simple"), .str (Str.ofString "is_simple") W.t7, .bool W.simple⟩] 5),
   (W.nm, { cls := .type "tuple", data := .seq #[.ref W.ct, .int W.b W.t8] 0 }), (W.ct, { cls := .type "tuple", data := .seq W.vs.toArray 0 })]
theorem len_tupN {prog : Program} {w : World} {A : Around} {E : Value → Shared → Prop} {s : Shared} {h₀ : Heap} {L t : Addr} {news : List (Addr × Obj)} {vs : List Value} {cnt : List Int} {d : Option Addr} {sl : Array (Option Value)} {n : Nat} {Q : Value → Shared → Prop}
    (N : News h₀ L s.heap news) (hm : (t, ({ cls := .type "tuple", dict := d, data := .seq vs.toArray n, slots := sl } : Obj)) ∈ news) (hI : IntsAre vs cnt) (hl : cnt.length ≤ 1000)
    (h : ∀ tk tk', Q (.int (cnt.length : Int) tk) { s with toks := tk' }) : wpAny (model prog w) A (call (.builtin "len") [.ref t]) Q E s := by
  have e : vs.toArray.size = cnt.length := by simp [hI.length]
  refine len_tuple (News.isTup N hm) ?_ ?_
  · rw [e]; omega
  · rw [e]; exact h _ _
noncomputable def longF (cnt : List Int) (b : Int) : Int := if b > (cnt.length : Int) - 1 then b else (cnt.length : Int) - 1
theorem longest_claim (w : World) (mean : ExcName → Option Value) (mg mb : Str → Option Value) (W : WsT) (cnt : List Int) (hI : IntsAre W.vs cnt) (hl : cnt.length ≤ 1000) :
    PClaim w mean mg mb 62 (W.objs w.params) True [.ref W.x] 2 100 (fun t => .int (longF cnt W.b) t) := by
  dsimp only [PClaim]
  k_fill
  intro dp un gd cn cs a ccd cl outer A₀ base h₀ L m s Q E news hB hF hK hN hT hk hown hpre hdp hun hret
  have hN2 := news_app hN hown
  dsimp only [WsT.objs, List.cons_append, List.nil_append] at hN2
  clear hN
  k_with "call builtin:len" => (refine len_tupN (by k_asm) (by k_mem) (by assumption) (by assumption) ?_; intro t9 t8)
  refine wpAny_call ?_
  k_dflt cell_enter
  k_steps
  exact cb_retI hret rfl (by assumption) (news_sub (own := W.objs w.params) (by assumption))
noncomputable def ilF (ts : Int) (cnt : List Int) (pre : List Int) : Int := pre.foldl (fun il i => il + i.fdiv ts * cnt.getD i.toNat 0) 0
theorem ilF_snoc (ts : Int) (cnt pre : List Int) (i : Int) : ilF ts cnt (pre ++ [i]) = ilF ts cnt pre + i.fdiv ts * cnt.getD i.toNat 0 := by
  unfold ilF; rw [List.foldl_append]; rfl
theorem mul_fitR {prog : Program} {w : World} {A : Around} {E : Value → Shared → Prop} {s : Shared} {a b : Int} {t u : Tok} {Q : Value → Shared → Prop} (hb : -(2 ^ 64) < b ∧ b < 2 ^ 64)
    (h : Q (.int (a * b) s.toks) { s with toks := s.toks + 1 }) : wpAny (model prog w) A (binaryOp .Mult (.int a t) (.int b u)) Q E s := mul_int h (IntMulOk.of_right (intBits_le_64 hb.1 hb.2))
theorem mul_fitL {prog : Program} {w : World} {A : Around} {E : Value → Shared → Prop} {s : Shared} {a b : Int} {t u : Tok} {Q : Value → Shared → Prop} (ha : -(2 ^ 64) < a ∧ a < 2 ^ 64)
    (h : Q (.int (a * b) s.toks) { s with toks := s.toks + 1 }) : wpAny (model prog w) A (binaryOp .Mult (.int a t) (.int b u)) Q E s := mul_int h (IntMulOk.of_left (intBits_le_64 ha.1 ha.2))
theorem ilF_nil (ts : Int) (cnt : List Int) : 0 = ilF ts cnt [] := rfl
noncomputable def indF (cnt : List Int) (b nt ts : Int) : Int := b + ts * (ilF ts cnt (rangeKs ts ((cnt.length : Int) - ts).toNat) + nt)
theorem indent_claim (w : World) (mean : ExcName → Option Value) (mg mb : Str → Option Value) (W : WsT) (cnt : List Int) (hI : IntsAre W.vs cnt) (hl : cnt.length ≤ 1000) (hc : ∀ i, -(2 ^ 64) < cnt.getD i 0 ∧ cnt.getD i 0 < 2 ^ 64) (ts : Int) (tk0 : Tok) (h1 : 1 ≤ ts) (h2 : ts ≤ 100) :
    PClaim w mean mg mb 69 (W.objs w.params) True [.ref W.x, .int ts tk0] 2 100 (fun t => .int (indF cnt W.b W.nt ts) t) := by
  dsimp only [PClaim]
  k_fill
  intro dp un gd cn cs a ccd cl outer A₀ base h₀ L m s Q E news hB hF hK hN hT hk hown hpre hdp hun hret
  have hN2 := news_app hN hown
  dsimp only [WsT.objs, List.cons_append, List.nil_append] at hN2
  clear hN
  k_with_none
  k_with "call builtin:len" => (refine len_tupN (by k_asm) (by k_mem) (by assumption) (by assumption) ?_; intro t9 t8)
  k_with "binaryOp Mult int int" => (refine mul_fitR (hc _) ?_)
  k_with "pyIter ref" => k_state_given ["tabsize"] (fun ts pre il => il = ilF ts cnt pre) "il"
  k_with "state" => (first | exact ilF_nil _ _ | (rw [ilF_snoc]; subst_vars; rfl))
  refine wpAny_call ?_
  k_dflt cell_enter
  k_steps
  refine cb_retI hret ?_ (by assumption) (news_sub (own := W.objs w.params) (by assumption))
  rename _ = ilF _ _ _ => hil
  rw [hil]; rfl
end Mine
end
local macro_rules | `(tactic| walk_at $s:str) => `(tactic| k_extra $(Lean.Syntax.mkStrLit ("!" ++ s.getString)))
local macro_rules | `(tactic| walk_at "sub") => `(tactic| with_reducible first | exact Mine.sbN | exact Mine.sbR | assumption | (refine Mine.sbA ?_ ?_ <;> walk_at "sub") | (refine Mine.sbC ?_ ?_; (focus (walk_at "subm")); walk_at "sub") | walk_at "subs")
local macro_rules | `(tactic| walk_at "subs") => `(tactic| first | exact Mine.sbR | assumption | (refine Mine.sbT ?_; walk_at "subs") | (refine Mine.sbL ?_; walk_at "subs") | (refine Mine.sbG ?_; walk_at "subs"))
local macro_rules | `(tactic| walk_at "subm") => `(tactic| first | exact Mine.smH | assumption | (refine Mine.smT ?_; walk_at "subm") | (refine Mine.smL ?_; walk_at "subm") | (refine Mine.smG ?_; walk_at "subm"))
local macro_rules | `(tactic| omega) => `(tactic| first | exact Ne.symm (by assumption) | exact absurd (Eq.symm (by assumption)) (by assumption) | ((fail_if_success (fail_if_success (omega (config := {})))); first | lia | omega (config := {})))
section
open PySem PySem.W PyProof.Rows
namespace Mine
theorem fresh_Base2 : True := by
  k_with_none
  w_top off
  trivial
noncomputable abbrev DClaim (w : World) (mean : ExcName → Option Value) (mg mb : Str → Option Value) (f : Addr) (own : List (Addr × Obj)) (vs : List Value) (nd nu : Nat) (ds : List Dat) : Prop :=
  ∀ (dp un : Nat) (gd : Option (List Code)) (cn : Str) (cs : Scope) (a : Addr) (ccd : Value) (cl : List (Str × Addr)) (outer : List Env) (A₀ : Around) (base h₀ : Heap) (L : Addr) (m : Str → Option Value) (s : Shared) (Q E : Value → Shared → Prop) (news : List (Addr × Obj)),
    Below A₀ base outer h₀ → Fr h₀ L s.heap m → (hd.heap_39 w.params).In h₀ → News h₀ L s.heap news → Top topProg LooseL mean mg mb h₀ → cs.kind = .function →
    (∀ p ∈ own, p ∈ news) → dp + nd < recursionLimit → un + nu < cLine →
    (∀ (l : Addr) (us : List Value) (n : Nat) (add : List (Addr × Obj)) (h' : Heap) (tk' : Nat), Fr h₀ L h' m → News h₀ L h' ((l, listOf us.toArray n) :: (news ++ add)) → DatAll add us ds → Q (.ref l) { s with heap := h', toks := tk' }) →
      wpAny (model Challenge.rw_pe0179_01.row.prog w) (ktrTop dp un gd cn cs L a ccd cl outer) (call (.ref f) vs) Q E s
structure WsOk (W : WsT) (cnt : List Int) : Prop where
  hI : IntsAre W.vs cnt
  hl : cnt.length ≤ 1000
  hc : ∀ i, -(2 ^ 64) < cnt.getD i 0 ∧ cnt.getD i 0 < 2 ^ 64
noncomputable def witF (c1 : List Int) (b1 nt1 : Int) (c2 : List Int) (b2 nt2 : Int) (ts : Int) : Dat := .tuple [.int ts, .int (indF c1 b1 nt1 ts), .int (indF c2 b2 nt2 ts)]
noncomputable def neF (c1 : List Int) (b1 nt1 : Int) (c2 : List Int) (b2 nt2 : Int) (pre : List Int) : List Dat :=
  (pre.filter fun ts => !decide (indF c1 b1 nt1 ts = indF c2 b2 nt2 ts)).map (witF c1 b1 nt1 c2 b2 nt2)
theorem neF_nil (c1 : List Int) (b1 nt1 : Int) (c2 : List Int) (b2 nt2 : Int) : ([] : List Dat) = neF c1 b1 nt1 c2 b2 nt2 [] ∧ ([] : List Dat).length ≤ ([] : List Int).length := ⟨rfl, Nat.le_refl _⟩
theorem neF_yes {c1 : List Int} {b1 nt1 : Int} {c2 : List Int} {b2 nt2 : Int} {pre : List Int} {ts : Int} (h : indF c1 b1 nt1 ts ≠ indF c2 b2 nt2 ts) (hl : (neF c1 b1 nt1 c2 b2 nt2 pre).length ≤ pre.length) :
    neF c1 b1 nt1 c2 b2 nt2 pre ++ [.tuple [.int ts, .int (indF c1 b1 nt1 ts), .int (indF c2 b2 nt2 ts)]] = neF c1 b1 nt1 c2 b2 nt2 (pre ++ [ts]) ∧ (neF c1 b1 nt1 c2 b2 nt2 pre ++ [Dat.tuple [.int ts, .int (indF c1 b1 nt1 ts), .int (indF c2 b2 nt2 ts)]]).length ≤ (pre ++ [ts]).length := by
  refine ⟨?_, by simp; omega⟩
  unfold neF; rw [List.filter_append, List.map_append]; simp [h, witF]
theorem neF_no {c1 : List Int} {b1 nt1 : Int} {c2 : List Int} {b2 nt2 : Int} {pre : List Int} {ts : Int} (h : indF c1 b1 nt1 ts = indF c2 b2 nt2 ts) (hl : (neF c1 b1 nt1 c2 b2 nt2 pre).length ≤ pre.length) :
    neF c1 b1 nt1 c2 b2 nt2 pre = neF c1 b1 nt1 c2 b2 nt2 (pre ++ [ts]) ∧ (neF c1 b1 nt1 c2 b2 nt2 pre).length ≤ (pre ++ [ts]).length := by
  refine ⟨?_, by simp; omega⟩
  unfold neF; rw [List.filter_append, List.map_append]; simp [h]
theorem longF_b {c : List Int} {b : Int} (hb : b ≤ 50) (hl : c.length ≤ 50) : -1 ≤ longF c b ∧ longF c b ≤ 50 := by
  unfold longF; split <;> omega
end Mine
end
section
open PySem PySem.W PyProof.Rows
namespace Mine
theorem fresh_Base3 : True := by
  k_with_none
  w_top off
  trivial
/-- what holds between the turns of a loop whose ledger may move -/
noncomputable def TjS {σ : Type} (Led : σ → List (Addr × Obj)) (ps : σ → List (Str × Value)) (x : Str) (stored : List Str) (m₀ : Str → Option Value) (P : List Int → σ → Prop) (pre : List Int) (m : Str → Option Value) (nx : List (Addr × Obj)) : Prop :=
  ∃ c, nx = Led c ∧ P pre c ∧ (∀ p ∈ ps c, m p.1 = some p.2) ∧ (∀ z, z ≠ x → (∀ p ∈ ps c, z ≠ p.1) → stored.contains z = false → m z = m₀ z)
theorem pyIter_strO {prog : Program} {w : World} {A : Around} {E : Value → Shared → Prop} {s : Shared} {x : Str} {t : Tok} {Q : Value → Shared → Prop}
    (hQ : ∀ (o : Obj) (St : Nat → Heap → Prop), (∀ A' : Around, A'.handled = none → Walks prog w A' s.heap.objs.size [s.heap.objs.size] [s.heap.objs.size] x.cps.size (SignAt x) St) → (∀ i h, St i h → ∃ o, h.get? s.heap.objs.size = some o) → St 0 (s.heap.push o) →
      Q (.ref s.heap.objs.size) { s with heap := s.heap.push o }) : wpAny (model prog w) A (pyIter (.str x t)) Q E s := by
  cases ha : x.cps.all (· < 128)
  · exact wpAny_pyIter_wide ha (hQ _ _ (fun A' hA => Walks.strWide hA _ x t) (fun _ _ h => ⟨_, h.choose_spec.1⟩) ⟨_, Heap.get?_push_size _ rfl, rfl, rfl⟩)
  · exact wpAny_pyIter_ascii ha (hQ _ _ (fun A' hA => Walks.strAscii hA _ x t) (fun _ _ h => ⟨_, h.choose_spec.1⟩) ⟨_, Heap.get?_push_size _ rfl, rfl, rfl⟩)
section
variable {prog : Program} {w : World} {A : Around} {E : Value → Shared → Prop} {s : Shared} {env : Env} {h₀ : Heap} {x : Str} {body : List Stmt} {Q : Flow → Shared → Prop}
theorem text_loop {σ : Type} {xt : Str} {tx : Tok} {m₀ : Str → Option Value} {news : List (Addr × Obj)} (Led : σ → List (Addr × Obj)) (ps : σ → List (Str × Value)) (stored : List Str) (P : List Int → σ → Prop) (c₀ : σ)
    (hh : A.handled = none) (F : Fr h₀ env.locals s.heap m₀) (N : News h₀ env.locals s.heap news) (hn : ∀ p ∈ Led c₀, p ∈ news) (hk : ∀ p ∈ ps c₀, m₀ p.1 = some p.2) (hp : P [] c₀)
    (turn : ∀ (c : σ) (pre post : List Int) (n : Nat) t (u : Str → Option Value) h tk own, KStt.codes xt = pre ++ (n : Int) :: post → OwnOff own ((Led c).map (·.1)) → P pre c →
      Fr h₀ env.locals h (fun y => if y = x then some (.str ⟨#[n]⟩ t) else kstB (fun z => if stored.contains z then u z else m₀ z) (ps c) y) → News h₀ env.locals h (Led c ++ own) →
      wpAny (model prog w) A (execs body env) (InvPostG h₀ env.locals (TjS Led ps x stored m₀ P (pre ++ [(n : Int)])) own { s with heap := h, toks := tk } Q) E { s with heap := h, toks := tk })
    (done : ∀ (c : σ) (u : Str → Option Value) h tk, P (KStt.codes xt) c → Fr h₀ env.locals h (fun y => if y = x then u y else kstB (fun z => if stored.contains z then u z else m₀ z) (ps c) y) → News h₀ env.locals h (Led c) → Q .next { s with heap := h, toks := tk }) :
    wpAny (model prog w) A (pyIter (.str xt tx)) (fun it s₂ => LoopAtV prog w A h₀ env x body Q E it s₂) E s := by
  refine pyIter_strO fun o St hW hSt hst => ?_
  have W := hW A hh
  have N' : News h₀ env.locals s.heap (Led c₀) := fun p hp => N p (hn p hp)
  refine kdr_loop (J := fun i m nx => TjS Led ps x stored m₀ P ((KStt.codes xt).take i) m nx) W (fun a ha => ha) (fun b hb => hb) ?_ ?_ ?_ ?_ hst (F.push _) (news := Led c₀) (fun p hp => ⟨Heap.get?_push_of_some _ (N' p hp).1, (N' p hp).2⟩) ⟨c₀, rfl, by simpa using hp, hk, fun _ _ _ _ => rfl⟩ ?_ ?_
  · intro i h hs b hb
    rw [List.mem_singleton.mp hb]
    exact hSt i h hs
  · intro hm
    exact absurd F.ns.lt ((List.mem_singleton.mp hm) ▸ Nat.lt_irrefl _)
  · intro b' hb
    rw [List.mem_singleton.mp hb]
    exact next_is_new F
  · intro p hp hI
    exact absurd (Heap.lt_size (N' p hp).1) ((List.mem_singleton.mp hI) ▸ Nat.lt_irrefl _)
  · rintro i v m₁ nx h tk own hi hX9
    refine cps ?_
    intro C9 hC9
    obtain ⟨n, u, hn, rfl⟩ := hX9
    refine hC9 ?_
    clear hC9 C9
    rintro hoff hX9
    refine cps ?_
    intro C9 hC9
    obtain ⟨c, rfl, hp', h1, h2⟩ := hX9
    refine hC9 ?_
    clear hC9 C9
    rintro F₁ N₁
    have hn' := KStt.code_at hn
    have hs : (KStt.codes xt).take (i + 1) = (KStt.codes xt).take i ++ [(n : Int)] := by simp [List.take_add_one, hn']
    have e : KStt.codes xt = (KStt.codes xt).take i ++ (n : Int) :: (KStt.codes xt).drop (i + 1) := by
      have ht := List.take_append_drop (i + 1) (KStt.codes xt)
      rw [hs, List.append_assoc] at ht
      exact ht.symm
    rw [hs]
    exact turn c _ _ n u m₁ h tk own e hoff hp' (kst_fr h1 h2 F₁) N₁
  · rintro m₁ nx h tk hX9
    refine cps ?_
    intro C9 hC9
    obtain ⟨c, rfl, hp', h1, h2⟩ := hX9
    refine hC9 ?_
    clear hC9 C9
    rintro F₁ N₁
    have hl : xt.cps.size = (KStt.codes xt).length := (KStt.codes_length xt).symm
    rw [hl, List.take_length] at hp'
    exact done c m₁ h tk hp' (kst_frOut h1 h2 F₁) N₁
theorem tj_end {σ : Type} {Led : σ → List (Addr × Obj)} {ps : σ → List (Str × Value)} {stored : List Str} {m₀ m' : Str → Option Value} {P : List Int → σ → Prop} {pre : List Int} {L : Addr} {own news' : List (Addr × Obj)} {s₁ : Shared} {h' : Heap} {tk : Nat} (c : σ)
    (F : Fr h₀ L h' m') (N : News h₀ L h' news') (hn : ∀ p ∈ Led c, p ∈ news') (ho : ∀ p ∈ own, p ∈ news') (ha : OwnOff own ((Led c).map (·.1))) (hk : ∀ p ∈ ps c, m' p.1 = some p.2)
    (hr : ∀ z, z ≠ x → (∀ p ∈ ps c, z ≠ p.1) → stored.contains z = false → m' z = m₀ z) (hp : P pre c) : InvEndG h₀ L (TjS Led ps x stored m₀ P pre) own s₁ { s₁ with heap := h', toks := tk } :=
  ⟨h', tk, m', news', Led c, rfl, F, N, hn, ho, ha, c, rfl, hp, hk, hr⟩
theorem ownOff_new {own : List (Addr × Obj)} {a b : Addr} {as : List Addr} (h : OwnOff own (a :: as)) (hb : ∀ p ∈ own, p.1 < b) : OwnOff own (b :: as) := by
  intro p hp q hq
  rcases List.mem_cons.mp hq with rfl | hq
  · exact Nat.ne_of_lt (hb p hp)
  · exact h p hp q (List.mem_cons_of_mem _ hq)
theorem allLt_app {b : Addr} {l r : List (Addr × Obj)} (h : AllLt b (l ++ r)) : AllLt b l ∧ ∀ p ∈ r, p.1 < b :=
  ⟨allLt_of fun p hp => tb_ltOf h p (List.mem_append_left _ hp), fun p hp => tb_ltOf h p (List.mem_append_right _ hp)⟩
end
theorem tupleN {prog : Program} {w : World} {A : Around} {E : Value → Shared → Prop} {s : Shared} {h₀ : Heap} {L l : Addr} {m : Str → Option Value} {news : List (Addr × Obj)} {vs : List Value} {cnt : List Int} {k : Nat} {Q : Value → Shared → Prop} (F : Fr h₀ L s.heap m) (N : News h₀ L s.heap news)
    (hm : (l, listOf vs.toArray k) ∈ news) (hI : IntsAre vs cnt) (hz : cnt.length ≤ 1000)
    (h : ∀ D h', Fr h₀ L h' m → News h₀ L h' ((D, ({ cls := .type "tuple", data := .seq vs.toArray } : Obj)) :: news) → (∀ p ∈ news, p.1 < D) → Q (.ref D) { s with heap := h' }) : wpAny (model prog w) A (call (.type "tuple") [.ref l]) Q E s :=
  kde_tupleOf F N (News.isList N hm) (by have := hI.length; simp; omega) (by simp) h
noncomputable def TjL {σ : Type} (Led : σ → List (Addr × Obj)) (ps : σ → List (Str × Value)) (stored : List Str) (m₀ : Str → Option Value) (P : Nat → σ → Prop) (x : Addr × Obj) (i : Nat) (m : Str → Option Value) (nx : List (Addr × Obj)) : Prop :=
  ∃ c, nx = Led c ∧ x ∈ Led c ∧ P i c ∧ (∀ p ∈ ps c, m p.1 = some p.2) ∧ (∀ z, (∀ p ∈ ps c, z ≠ p.1) → stored.contains z = false → m z = m₀ z)
section
variable {prog : Program} {w : World} {A : Around} {E : Value → Shared → Prop} {s : Shared} {env : Env} {h₀ : Heap} {target : Expr} {body : List Stmt} {Q : Flow → Shared → Prop}
theorem map_eq {m₁ m₀ : Str → Option Value} {ps : List (Str × Value)} {stored : List Str} (h1 : ∀ p ∈ ps, m₁ p.1 = some p.2) (h2 : ∀ z, (∀ p ∈ ps, z ≠ p.1) → stored.contains z = false → m₁ z = m₀ z) :
    m₁ = kstB (fun z => if stored.contains z then m₁ z else m₀ z) ps := by
  funext z
  refine (kstB_eq h1 fun hz => ?_).symm
  cases hs : stored.contains z with
  | true => simp
  | false => simp; exact (h2 z hz hs).symm
theorem list_loop {σ : Type} {l : Addr} {vs : List Value} {nn : Nat} {m₀ : Str → Option Value} {news : List (Addr × Obj)} (Led : σ → List (Addr × Obj)) (ps : σ → List (Str × Value)) (stored : List Str) (P : Nat → σ → Prop) (c₀ : σ)
    (hh : A.handled = none) (F : Fr h₀ env.locals s.heap m₀) (N : News h₀ env.locals s.heap news) (hn : ∀ p ∈ Led c₀, p ∈ news) (hl : (l, listOf vs.toArray nn) ∈ Led c₀) (hk : ∀ p ∈ ps c₀, m₀ p.1 = some p.2) (hp : P 0 c₀)
    (turn : ∀ (c : σ) i v (u : Str → Option Value) h tk own, vs[i]? = some v → OwnOff own ((Led c).map (·.1)) → (l, listOf vs.toArray nn) ∈ Led c → P i c →
      Fr h₀ env.locals h (kstB (fun z => if stored.contains z then u z else m₀ z) (ps c)) → News h₀ env.locals h (Led c ++ own) →
      wpAny (model prog w) A (assign target env v) (fun _ s₃ => wpAny (model prog w) A (execs body env) (InvPostG h₀ env.locals (TjL Led ps stored m₀ P (l, listOf vs.toArray nn) (i + 1)) own { s with heap := h, toks := tk } Q) E s₃) E { s with heap := h, toks := tk })
    (done : ∀ (c : σ) (u : Str → Option Value) h tk, P vs.length c → Fr h₀ env.locals h (kstB (fun z => if stored.contains z then u z else m₀ z) (ps c)) → News h₀ env.locals h (Led c) → Q .next { s with heap := h, toks := tk }) :
    wpAny (model prog w) A (pyIter (.ref l)) (fun it s₂ => TurnsAt prog w A h₀ env target body Q E it s₂) E s := by
  have hol : s.heap.get? l = some (listOf vs.toArray nn) := (N _ (hn _ hl)).1
  have hLl : l ≠ env.locals := (N _ (hn _ hl)).2.1
  have hls : s.heap.IsList l vs.toArray := ⟨_, hol, rfl, nn, rfl⟩
  have hne : l ≠ s.heap.objs.size := Nat.ne_of_lt (Heap.lt_size hol)
  have N' : News h₀ env.locals s.heap (Led c₀) := fun p hp => N p (hn p hp)
  refine wpAny_pyIter_list hls ?_
  have W := KTurns.ofWalks (target := target) (Walks.list (prog := prog) (w := w) hh s.heap.objs.size l hne vs.toArray) fun i v s Q E st q => letGo_listiter st.1 q
  have hlen : vs.toArray.size = vs.length := by simp
  rw [hlen] at W
  have hI0 : h₀.get? s.heap.objs.size = none := next_is_new F
  refine ⟨_, _, _, vs.length, _, _, _, m₀, Led c₀, (fun i m nx => TjL Led ps stored m₀ P (l, listOf vs.toArray nn) i m nx), rfl, W, ?_, ?_, ?_, ⟨⟨_, Heap.get?_push_size _ rfl, rfl, rfl⟩, hls.at fun o e => Heap.get?_push_of_some _ e⟩, F.push _, (fun p hp => ⟨Heap.get?_push_of_some _ (N' p hp).1, (N' p hp).2⟩), ⟨c₀, rfl, hl, hp, hk, fun _ _ _ => rfl⟩, ?_, ?_⟩
  · intro hm
    rcases List.mem_cons.mp hm with e | hm
    · exact absurd F.ns.lt (e ▸ Nat.lt_irrefl _)
    · exact hLl ((List.mem_singleton.mp hm).symm)
  · intro b hb
    rw [List.mem_singleton.mp hb]
    exact hI0
  · intro p hp hI
    exact absurd (Heap.lt_size (N' p hp).1) ((List.mem_singleton.mp hI) ▸ Nat.lt_irrefl _)
  · rintro i v m₁ news₁ hh' tk' own hin hP hX9
    refine cps ?_
    intro C9 hC9
    obtain ⟨c, rfl, hl₁, hPc, h1, h2⟩ := hX9
    refine hC9 ?_
    clear hC9 C9
    rintro hoff hown hget hfp hst F₁ N₁
    have hP' : vs[i]? = some v := by simpa using hP
    refine cps ?_
    intro C9 hC9
    obtain ⟨⟨oI, hoI, _⟩, _⟩ := id hst
    refine hC9 ?_
    clear hC9 C9
    let ow := own.filter fun p => decide (p.1 = s.heap.objs.size)
    have hIown : (s.heap.objs.size, oI) ∈ ow := List.mem_filter.mpr ⟨hfp _ (List.mem_cons.mpr (.inl rfl)) hI0 _ hoI, by simp⟩
    have hsep : OwnOff ow ((Led c).map (·.1)) := by
      intro p hp b hb e
      obtain ⟨q, hq, rfl⟩ := List.mem_map.mp hb
      have h1 : p.1 = s.heap.objs.size := by simpa using (List.mem_filter.mp hp).2
      exact hoff q hq (List.mem_singleton.mpr (e ▸ h1))
    have N₂ : News h₀ env.locals hh' (Led c ++ ow) := fun p hp => N₁ p ((List.mem_append.mp hp).elim (fun h => List.mem_append.mpr (.inr h)) fun h => List.mem_append.mpr (.inl ((List.mem_filter.mp h).1)))
    have hlo : hh'.get? l = some (listOf vs.toArray nn) := (N₁ _ (List.mem_append.mpr (.inr hl₁))).1
    have F₂ : Fr h₀ env.locals hh' (kstB (fun z => if stored.contains z then m₁ z else m₀ z) (ps c)) := by rw [← map_eq h1 h2]; exact F₁
    refine wpAny_mono (turn c i v m₁ hh' tk' ow hP' hsep hl₁ hPc F₂ N₂) (fun _ s₃ q => wpAny_mono q (fun f s₂ p => ?_) fun _ _ e => e) fun _ _ e => e
    have fin : InvEndG h₀ env.locals (TjL Led ps stored m₀ P (l, listOf vs.toArray nn) (i + 1)) ow { s with heap := hh', toks := tk' } s₂ →
        LoopStepU h₀ env.locals [s.heap.objs.size] own (TjL Led ps stored m₀ P (l, listOf vs.toArray nn) (i + 1)) { s with heap := hh', toks := tk' } .next s₂ := by
      rintro hX9
      refine cps ?_
      intro C9 hC9
      obtain ⟨h', tk, m', news', nx, e, F', N'', hn', ho, ha, hm⟩ := hX9
      refine hC9 ?_
      clear hC9 C9
      have hln : (l, listOf vs.toArray nn) ∈ nx := by obtain ⟨c', rfl, q, _⟩ := hm; exact q
      refine ⟨rfl, h', tk, m', nx, e, F', fun p hp => ?_, fun p hp hq => ?_, hm⟩
      · rcases List.mem_append.mp hp with h | h
        · by_cases hI : p.1 = s.heap.objs.size
          · exact N'' p (ho p (List.mem_filter.mpr ⟨h, by simpa using hI⟩))
          · have h1 : p.1 = l := by
              rcases List.mem_cons.mp (hown p h) with h2 | h2
              · exact absurd h2 hI
              · exact List.mem_singleton.mp h2
            have h2 : hh'.get? p.1 = some p.2 := hget p h
            rw [h1, hlo] at h2
            have h3 : p = (l, listOf vs.toArray nn) := Prod.ext h1 (Option.some.inj h2).symm
            rw [h3]
            exact N'' _ (hn' _ hln)
        · exact N'' p (hn' p h)
      · exact ha _ hIown p.1 (List.mem_map.mpr ⟨p, hp, rfl⟩) (List.mem_singleton.mp hq).symm
    cases f with
    | ret v => exact .ret p
    | brk => exact .brk p
    | next => exact .next (fin p)
    | cont => exact .cont (fin p)
  · rintro h' tk m' news' F' N'' _ hX9
    refine cps ?_
    intro C9 hC9
    obtain ⟨c, rfl, _, hPc, h1, h2⟩ := hX9
    refine hC9 ?_
    clear hC9 C9
    have F₂ : Fr h₀ env.locals h' (kstB (fun z => if stored.contains z then m' z else m₀ z) (ps c)) := by rw [← map_eq h1 h2]; exact F'
    exact done c m' h' tk hPc F₂ N''
theorem tl_end {σ : Type} {Led : σ → List (Addr × Obj)} {ps : σ → List (Str × Value)} {stored : List Str} {m₀ m' : Str → Option Value} {P : Nat → σ → Prop} {x : Addr × Obj} {i : Nat} {L : Addr} {own news' : List (Addr × Obj)} {s₁ : Shared} {h' : Heap} {tk : Nat} (c : σ)
    (F : Fr h₀ L h' m') (N : News h₀ L h' news') (hn : ∀ p ∈ Led c, p ∈ news') (ho : ∀ p ∈ own, p ∈ news') (ha : OwnOff own ((Led c).map (·.1))) (hx : x ∈ Led c) (hk : ∀ p ∈ ps c, m' p.1 = some p.2)
    (hr : ∀ z, (∀ p ∈ ps c, z ≠ p.1) → stored.contains z = false → m' z = m₀ z) (hp : P i c) : InvEndG h₀ L (TjL Led ps stored m₀ P x i) own s₁ { s₁ with heap := h', toks := tk } :=
  ⟨h', tk, m', news', Led c, rfl, F, N, hn, ho, ha, c, rfl, hx, hp, hk, hr⟩
end
theorem din_int {add : List (Addr × Obj)} {v : Value} {i : Int} (h : DatIn add v (.int i)) : ∃ t, v = .int i t := by
  cases h; exact ⟨_, rfl⟩
theorem din_str {add : List (Addr × Obj)} {v : Value} {x : Str} (h : DatIn add v (.str x)) : ∃ t, v = .str x t := by
  cases h; exact ⟨_, rfl⟩
theorem din_tup {add : List (Addr × Obj)} {v : Value} {ds : List Dat} (h : DatIn add v (.tuple ds)) : ∃ (T : Addr) (us : List Value) (n : Nat), v = .ref T ∧ (T, ({ cls := .type "tuple", data := .seq us.toArray n } : Obj)) ∈ add ∧ DatAll add us ds := by
  cases h with
  | tuple hm ha => exact ⟨_, _, _, rfl, hm, ha⟩
theorem dall_cons {add : List (Addr × Obj)} {us : List Value} {d : Dat} {ds : List Dat} (h : DatAll add us (d :: ds)) : ∃ v vs, us = v :: vs ∧ DatIn add v d ∧ DatAll add vs ds := by
  cases h with
  | cons h1 h2 => exact ⟨_, _, rfl, h1, h2⟩
theorem dall_nil {add : List (Addr × Obj)} {us : List Value} (h : DatAll add us []) : us = [] := by
  cases h; rfl
theorem dget {α : Type} {f : α → Dat} {add : List (Addr × Obj)} {us : List Value} {ps : List α} (hD : DatAll add us (ps.map f)) {i : Nat} {v : Value} (hv : us[i]? = some v) : ∃ h : i < ps.length, DatIn add v (f ps[i]) := by
  have hl := hD.length
  rw [List.length_map] at hl
  have hi : i < ps.length := by
    have := (List.getElem?_eq_some_iff.mp hv).1
    omega
  obtain ⟨v', hv', hd⟩ := hD.get (k := i) (by rw [List.length_map]; exact hi)
  rw [hv] at hv'
  rw [List.getElem_map] at hd
  exact ⟨hi, by injection hv' with e; rw [e]; exact hd⟩
theorem dtup2 {add : List (Addr × Obj)} {v : Value} {d1 d2 : Dat} (h : DatIn add v (.tuple [d1, d2])) : ∃ (T : Addr) (v1 v2 : Value) (n : Nat), v = .ref T ∧ (T, ({ cls := .type "tuple", data := .seq #[v1, v2] n } : Obj)) ∈ add ∧ DatIn add v1 d1 ∧ DatIn add v2 d2 := by
  obtain ⟨T, us, n, e, hm, ha⟩ := din_tup h
  obtain ⟨v1, us1, rfl, h1, ha⟩ := dall_cons ha
  obtain ⟨v2, us2, rfl, h2, ha⟩ := dall_cons ha
  have := dall_nil ha
  subst this
  exact ⟨T, v1, v2, n, e, hm, h1, h2⟩
theorem dtup3 {add : List (Addr × Obj)} {v : Value} {d1 d2 d3 : Dat} (h : DatIn add v (.tuple [d1, d2, d3])) : ∃ (T : Addr) (v1 v2 v3 : Value) (n : Nat), v = .ref T ∧ (T, ({ cls := .type "tuple", data := .seq #[v1, v2, v3] n } : Obj)) ∈ add ∧ DatIn add v1 d1 ∧ DatIn add v2 d2 ∧ DatIn add v3 d3 := by
  obtain ⟨T, us, n, e, hm, ha⟩ := din_tup h
  obtain ⟨v1, us1, rfl, h1, ha⟩ := dall_cons ha
  obtain ⟨v2, us2, rfl, h2, ha⟩ := dall_cons ha
  obtain ⟨v3, us3, rfl, h3, ha⟩ := dall_cons ha
  have := dall_nil ha
  subst this
  exact ⟨T, v1, v2, v3, n, e, hm, h1, h2, h3⟩
end Mine
end
section
open PySem PySem.W PyProof.Rows
namespace Mine
theorem fresh_T7 : True := by
  k_with_none
  w_top off
  trivial
theorem newsD {h₀ h : Heap} {L : Addr} {x : Addr × Obj} {led news : List (Addr × Obj)} (N : News h₀ L h led) (hx : x ∈ led) (hs : ∀ p ∈ news, p ∈ led) : News h₀ L h (x :: (news ++ led)) := by
  refine fmC ?_ ?_
  · exact N _ hx
  · intro p hp
    rcases List.mem_append.mp hp with q | q
    · exact N p (hs p q)
    · exact N p q
theorem ne_claim (w : World) (mean : ExcName → Option Value) (mg mb : Str → Option Value) (W1 W2 : WsT) (c1 c2 : List Int) (o1 : WsOk W1 c1) (o2 : WsOk W2 c2) (hb1 : W1.b ≤ 50) (hb2 : W2.b ≤ 50) (hl1 : c1.length ≤ 50) (hl2 : c2.length ≤ 50) :
    DClaim w mean mg mb 83 (W1.objs w.params ++ W2.objs w.params) [.ref W1.x, .ref W2.x] 4 120 (neF c1 W1.b W1.nt c2 W2.b W2.nt (rangeKs 1 ((if longF c2 W2.b > longF c1 W1.b then longF c2 W2.b else longF c1 W1.b) + 1 + 1 - 1).toNat)) := by
  dsimp only [DClaim]
  k_fill
  intro dp un gd cn cs a ccd cl outer A₀ base h₀ L m s Q E news hB hF hK hN hT hk hown hdp hun hret
  have hN2 := news_app hN hown
  dsimp only [WsT.objs, List.cons_append, List.nil_append] at hN2
  clear hN
  obtain ⟨hq1, hq2⟩ := longF_b hb1 hl1
  obtain ⟨hq3, hq4⟩ := longF_b hb2 hl2
  k_with_none
  k_with "!mine_side" => (
    (case k1 => k_asm); (case k2 => k_asm); (case k3 => k_asm); (case k4 => k_asm); (case k5 => k_asm); (case k6 => first | exact rfl | assumption); (case k7 => (walk_at "sub")); (case k8 => trivial); (case k9 => ((try dsimp only [ktrTop, Around.deeper, Around.mark, Around.in1, Around.under]); omega)); (case k10 => ((try dsimp only [ktrTop, Around.deeper, Around.mark, Around.in1, Around.under]); omega)))
  k_with "call ref" => ((try dsimp only [List.cons_append, List.nil_append, List.append_nil]); k_dflt first
    | (refine' longest_claim w mean mg mb W1 c1 o1.hI o1.hl _ _ _ _ _ _ _ _ _ _ _ _ _ _ _ _ _ _ ?k1 ?k2 ?k3 ?k4 ?k5 ?k6 ?k7 ?k8 ?k9 ?k10 ?_; k_extra "!mine_side"; intro t9 h9 tk9 F9 N9)
    | (refine' longest_claim w mean mg mb W2 c2 o2.hI o2.hl _ _ _ _ _ _ _ _ _ _ _ _ _ _ _ _ _ _ ?k1 ?k2 ?k3 ?k4 ?k5 ?k6 ?k7 ?k8 ?k9 ?k10 ?_; k_extra "!mine_side"; intro t9 h9 tk9 F9 N9)
    | (refine' indent_claim w mean mg mb W1 c1 o1.hI o1.hl o1.hc _ _ ?ks ?kt _ _ _ _ _ _ _ _ _ _ _ _ _ _ _ _ _ _ ?k1 ?k2 ?k3 ?k4 ?k5 ?k6 ?k7 ?k8 ?k9 ?k10 ?_; k_extra "!mine_side"; (case ks => omega); (case kt => omega); intro t9 h9 tk9 F9 N9)
    | (refine' indent_claim w mean mg mb W2 c2 o2.hI o2.hl o2.hc _ _ ?ks ?kt _ _ _ _ _ _ _ _ _ _ _ _ _ _ _ _ _ _ ?k1 ?k2 ?k3 ?k4 ?k5 ?k6 ?k7 ?k8 ?k9 ?k10 ?_; k_extra "!mine_side"; (case ks => omega); (case kt => omega); intro t9 h9 tk9 F9 N9))
  k_with "pyIter ref" => k_dat (fun pre a => a = neF c1 W1.b W1.nt c2 W2.b W2.nt pre ∧ a.length ≤ pre.length) "a*"
  k_with "state" => (first | exact neF_nil _ _ _ _ _ _ | exact neF_yes (by assumption) (by assumption) | exact neF_no (by assumption) (by assumption))
  refine wpAny_call ?_
  k_dflt cell_enter
  k_steps
  refine hret _ _ _ _ _ _ (by assumption) (newsD (by assumption) (by k_mem) ?_) ?_
  · intro p hp
    simp only [List.mem_cons, List.mem_append]
    (first | walk_at "subm" | simp [hp])
  · refine DatAll.mono ?_ (by assumption)
    walk_at "sub"
end Mine
end
section
open PySem PySem.W PyProof.Rows
namespace Mine
theorem fresh_T8 : True := by
  k_with_none
  w_top off
  trivial
theorem newsD' {h₀ h : Heap} {L : Addr} {x : Addr × Obj} {led news : List (Addr × Obj)} (N : News h₀ L h led) (hx : x ∈ led) (hs : ∀ p ∈ news, p ∈ led) : News h₀ L h (x :: (news ++ led)) := by
  refine fmC ?_ ?_
  · exact N _ hx
  · intro p hp
    rcases List.mem_append.mp hp with q | q
    · exact N p (hs p q)
    · exact N p q
noncomputable def nlF (c1 : List Int) (b1 nt1 : Int) (c2 : List Int) (b2 nt2 : Int) (pre : List Int) : List Dat :=
  (pre.filter fun ts => decide (indF c1 b1 nt1 ts ≥ indF c2 b2 nt2 ts)).map (witF c1 b1 nt1 c2 b2 nt2)
theorem nlF_nil (c1 : List Int) (b1 nt1 : Int) (c2 : List Int) (b2 nt2 : Int) : ([] : List Dat) = nlF c1 b1 nt1 c2 b2 nt2 [] ∧ ([] : List Dat).length ≤ ([] : List Int).length := ⟨rfl, Nat.le_refl _⟩
theorem nlF_yes {c1 : List Int} {b1 nt1 : Int} {c2 : List Int} {b2 nt2 : Int} {pre : List Int} {ts : Int} (h : indF c1 b1 nt1 ts ≥ indF c2 b2 nt2 ts) (hl : (nlF c1 b1 nt1 c2 b2 nt2 pre).length ≤ pre.length) :
    nlF c1 b1 nt1 c2 b2 nt2 pre ++ [.tuple [.int ts, .int (indF c1 b1 nt1 ts), .int (indF c2 b2 nt2 ts)]] = nlF c1 b1 nt1 c2 b2 nt2 (pre ++ [ts]) ∧ (nlF c1 b1 nt1 c2 b2 nt2 pre ++ [Dat.tuple [.int ts, .int (indF c1 b1 nt1 ts), .int (indF c2 b2 nt2 ts)]]).length ≤ (pre ++ [ts]).length := by
  refine ⟨?_, by simp; omega⟩
  unfold nlF; rw [List.filter_append, List.map_append]; simp [h, witF]
theorem nlF_no {c1 : List Int} {b1 nt1 : Int} {c2 : List Int} {b2 nt2 : Int} {pre : List Int} {ts : Int} (h : ¬ indF c2 b2 nt2 ts ≤ indF c1 b1 nt1 ts) (hl : (nlF c1 b1 nt1 c2 b2 nt2 pre).length ≤ pre.length) :
    nlF c1 b1 nt1 c2 b2 nt2 pre = nlF c1 b1 nt1 c2 b2 nt2 (pre ++ [ts]) ∧ (nlF c1 b1 nt1 c2 b2 nt2 pre).length ≤ (pre ++ [ts]).length := by
  refine ⟨?_, by simp; omega⟩
  unfold nlF; rw [List.filter_append, List.map_append]; have h' : ¬ (indF c1 b1 nt1 ts ≥ indF c2 b2 nt2 ts) := by omega
  simp [h']
theorem nl_claim (w : World) (mean : ExcName → Option Value) (mg mb : Str → Option Value) (W1 W2 : WsT) (c1 c2 : List Int) (o1 : WsOk W1 c1) (o2 : WsOk W2 c2) (hb1 : W1.b ≤ 50) (hb2 : W2.b ≤ 50) (hl1 : c1.length ≤ 50) (hl2 : c2.length ≤ 50) :
    DClaim w mean mg mb 97 (W1.objs w.params ++ W2.objs w.params) [.ref W1.x, .ref W2.x] 4 120 (nlF c1 W1.b W1.nt c2 W2.b W2.nt (rangeKs 1 ((if longF c2 W2.b > longF c1 W1.b then longF c2 W2.b else longF c1 W1.b) + 1 + 1 - 1).toNat)) := by
  dsimp only [DClaim]
  k_fill
  intro dp un gd cn cs a ccd cl outer A₀ base h₀ L m s Q E news hB hF hK hN hT hk hown hdp hun hret
  have hN2 := news_app hN hown
  dsimp only [WsT.objs, List.cons_append, List.nil_append] at hN2
  clear hN
  obtain ⟨hq1, hq2⟩ := longF_b hb1 hl1
  obtain ⟨hq3, hq4⟩ := longF_b hb2 hl2
  k_with_none
  k_with "!mine_side" => (
    (case k1 => k_asm); (case k2 => k_asm); (case k3 => k_asm); (case k4 => k_asm); (case k5 => k_asm); (case k6 => first | exact rfl | assumption); (case k7 => (walk_at "sub")); (case k8 => trivial); (case k9 => ((try dsimp only [ktrTop, Around.deeper, Around.mark, Around.in1, Around.under]); omega)); (case k10 => ((try dsimp only [ktrTop, Around.deeper, Around.mark, Around.in1, Around.under]); omega)))
  k_with "call ref" => ((try dsimp only [List.cons_append, List.nil_append, List.append_nil]); k_dflt first
    | (refine' longest_claim w mean mg mb W1 c1 o1.hI o1.hl _ _ _ _ _ _ _ _ _ _ _ _ _ _ _ _ _ _ ?k1 ?k2 ?k3 ?k4 ?k5 ?k6 ?k7 ?k8 ?k9 ?k10 ?_; k_extra "!mine_side"; intro t9 h9 tk9 F9 N9)
    | (refine' longest_claim w mean mg mb W2 c2 o2.hI o2.hl _ _ _ _ _ _ _ _ _ _ _ _ _ _ _ _ _ _ ?k1 ?k2 ?k3 ?k4 ?k5 ?k6 ?k7 ?k8 ?k9 ?k10 ?_; k_extra "!mine_side"; intro t9 h9 tk9 F9 N9)
    | (refine' indent_claim w mean mg mb W1 c1 o1.hI o1.hl o1.hc _ _ ?ks ?kt _ _ _ _ _ _ _ _ _ _ _ _ _ _ _ _ _ _ ?k1 ?k2 ?k3 ?k4 ?k5 ?k6 ?k7 ?k8 ?k9 ?k10 ?_; k_extra "!mine_side"; (case ks => omega); (case kt => omega); intro t9 h9 tk9 F9 N9)
    | (refine' indent_claim w mean mg mb W2 c2 o2.hI o2.hl o2.hc _ _ ?ks ?kt _ _ _ _ _ _ _ _ _ _ _ _ _ _ _ _ _ _ ?k1 ?k2 ?k3 ?k4 ?k5 ?k6 ?k7 ?k8 ?k9 ?k10 ?_; k_extra "!mine_side"; (case ks => omega); (case kt => omega); intro t9 h9 tk9 F9 N9))
  k_with "pyIter ref" => k_dat (fun pre a => a = nlF c1 W1.b W1.nt c2 W2.b W2.nt pre ∧ a.length ≤ pre.length) "a*"
  k_with "state" => (first | exact nlF_nil _ _ _ _ _ _ | exact nlF_yes (by assumption) (by assumption) | exact nlF_no (by assumption) (by assumption))
  refine wpAny_call ?_
  k_dflt cell_enter
  k_steps
  refine hret _ _ _ _ _ _ (by assumption) (newsD' (by assumption) (by k_mem) ?_) ?_
  · intro p hp
    simp only [List.mem_cons, List.mem_append]
    (first | walk_at "subm" | simp [hp])
  · refine DatAll.mono ?_ (by assumption)
    walk_at "sub"
end Mine
end
section
open PySem PySem.W PyProof.Rows
namespace Mine
theorem fresh_T9 : True := by
  k_with_none
  w_top off
  trivial
noncomputable def lessF (W1 W2 : WsT) (c1 c2 : List Int) : Bool :=
  if W1.n ≥ W2.n then false else if W1.simple && W2.simple then decide (W1.nt ≤ W2.nt) else
  (rangeKs 2 ((if longF c2 W2.b > longF c1 W1.b then longF c2 W2.b else longF c1 W1.b) + 1 + 1 - 2).toNat).all fun ts => decide (indF c1 W1.b W1.nt ts < indF c2 W2.b W2.nt ts)
theorem less_e1 {W1 W2 : WsT} {c1 c2 : List Int} (h : W2.n ≤ W1.n) : false = lessF W1 W2 c1 c2 := by simp [lessF, h]
theorem less_e2 {W1 W2 : WsT} {c1 c2 : List Int} (h : ¬ W2.n ≤ W1.n) (a : W1.simple = true) (b : W2.simple = true) : decide (W1.nt ≤ W2.nt) = lessF W1 W2 c1 c2 := by simp [lessF, h, a, b]
theorem less_e3 {W1 W2 : WsT} {c1 c2 : List Int} {k : Int} {pre : List Int} (h : ¬ W2.n ≤ W1.n) (a : W1.simple = false ∨ W2.simple = false) (e : k = 2 + (pre.length : Int))
    (l : pre.length < ((if longF c2 W2.b > longF c1 W1.b then longF c2 W2.b else longF c1 W1.b) + 1 + 1 - 2).toNat) (q : indF c2 W2.b W2.nt k ≤ indF c1 W1.b W1.nt k) : false = lessF W1 W2 c1 c2 := by
  have s : (W1.simple && W2.simple) = false := by rcases a with a | a <;> simp [a]
  simp only [lessF, ge_iff_le, h, if_false, s, Bool.false_eq_true]
  symm
  rw [List.all_eq_false]
  refine ⟨k, ?_, by simpa using q⟩
  exact kre_mem (by omega) (by omega)
theorem less_e4 {W1 W2 : WsT} {c1 c2 : List Int} (h : ¬ W2.n ≤ W1.n) (a : W1.simple = false ∨ W2.simple = false)
    (q : ∀ ts ∈ rangeKs 2 ((if longF c2 W2.b > longF c1 W1.b then longF c2 W2.b else longF c1 W1.b) + 1 + 1 - 2).toNat, indF c1 W1.b W1.nt ts < indF c2 W2.b W2.nt ts) : true = lessF W1 W2 c1 c2 := by
  have s : (W1.simple && W2.simple) = false := by rcases a with a | a <;> simp [a]
  simp only [lessF, ge_iff_le, h, if_false, s, Bool.false_eq_true]
  symm
  rw [List.all_eq_true]
  intro ts hts
  exact decide_eq_true (q ts hts)
theorem less_claim (w : World) (mean : ExcName → Option Value) (mg mb : Str → Option Value) (W1 W2 : WsT) (c1 c2 : List Int) (o1 : WsOk W1 c1) (o2 : WsOk W2 c2) (hb1 : W1.b ≤ 50) (hb2 : W2.b ≤ 50) (hl1 : c1.length ≤ 50) (hl2 : c2.length ≤ 50) :
    PClaim w mean mg mb 90 (W1.objs w.params ++ W2.objs w.params) True [.ref W1.x, .ref W2.x] 4 120 (fun _ => .bool (lessF W1 W2 c1 c2)) := by
  dsimp only [PClaim]
  k_fill
  intro dp un gd cn cs a ccd cl outer A₀ base h₀ L m s Q E news hB hF hK hN hT hk hown hpre hdp hun hret
  have hN2 := news_app hN hown
  dsimp only [WsT.objs, List.cons_append, List.nil_append] at hN2
  clear hN
  obtain ⟨hq1, hq2⟩ := longF_b hb1 hl1
  obtain ⟨hq3, hq4⟩ := longF_b hb2 hl2
  k_with_none
  k_with "!mine_side" => (
    (case k1 => k_asm); (case k2 => k_asm); (case k3 => k_asm); (case k4 => k_asm); (case k5 => k_asm); (case k6 => first | exact rfl | assumption); (case k7 => (walk_at "sub")); (case k8 => trivial); (case k9 => ((try dsimp only [ktrTop, Around.deeper, Around.mark, Around.in1, Around.under]); omega)); (case k10 => ((try dsimp only [ktrTop, Around.deeper, Around.mark, Around.in1, Around.under]); omega)))
  k_with "call ref" => ((try dsimp only [List.cons_append, List.nil_append, List.append_nil]); k_dflt first
    | (refine' longest_claim w mean mg mb W1 c1 o1.hI o1.hl _ _ _ _ _ _ _ _ _ _ _ _ _ _ _ _ _ _ ?k1 ?k2 ?k3 ?k4 ?k5 ?k6 ?k7 ?k8 ?k9 ?k10 ?_; k_extra "!mine_side"; intro t9 h9 tk9 F9 N9)
    | (refine' longest_claim w mean mg mb W2 c2 o2.hI o2.hl _ _ _ _ _ _ _ _ _ _ _ _ _ _ _ _ _ _ ?k1 ?k2 ?k3 ?k4 ?k5 ?k6 ?k7 ?k8 ?k9 ?k10 ?_; k_extra "!mine_side"; intro t9 h9 tk9 F9 N9)
    | (refine' indent_claim w mean mg mb W1 c1 o1.hI o1.hl o1.hc _ _ ?ks ?kt _ _ _ _ _ _ _ _ _ _ _ _ _ _ _ _ _ _ ?k1 ?k2 ?k3 ?k4 ?k5 ?k6 ?k7 ?k8 ?k9 ?k10 ?_; k_extra "!mine_side"; (case ks => omega); (case kt => omega); intro t9 h9 tk9 F9 N9)
    | (refine' indent_claim w mean mg mb W2 c2 o2.hI o2.hl o2.hc _ _ ?ks ?kt _ _ _ _ _ _ _ _ _ _ _ _ _ _ _ _ _ _ ?k1 ?k2 ?k3 ?k4 ?k5 ?k6 ?k7 ?k8 ?k9 ?k10 ?_; k_extra "!mine_side"; (case ks => omega); (case kt => omega); intro t9 h9 tk9 F9 N9))
  k_with "pyIter ref" => k_search (fun pre => ∀ ts ∈ pre, indF c1 W1.b W1.nt ts < indF c2 W2.b W2.nt ts)
  refine wpAny_call ?_
  k_dflt cell_enter
  k_steps
  all_goals refine cb_retB hret ?_ (by assumption) (cb_drop (by assumption) (by intro p hp; (first | walk_at "subm" | simp [hp])))
  all_goals first
    | exact less_e1 (by assumption)
    | exact less_e2 (by assumption) (by assumption) (by assumption)
    | exact less_e3 (by assumption) (by first | exact .inl (by assumption) | exact .inr (by assumption)) (by assumption) (by assumption) (by assumption)
    | exact less_e4 (by assumption) (by first | exact .inl (by assumption) | exact .inr (by assumption)) (by assumption)
end Mine
end
section
open PySem PySem.W PyProof.Rows
namespace Mine
theorem fresh_T10 : True := by
  k_with_none
  w_top off
  trivial
theorem eq_norm {prog : Program} {w : World} {A : Around} {E : Value → Shared → Prop} {s : Shared} {h₀ : Heap} {L n1 n2 t1 t2 : Addr} {news : List (Addr × Obj)} {v1 v2 : List Value} {c1 c2 : List Int} {b1 b2 : Int} {k1 k2 : Tok} {Q : Value → Shared → Prop}
    (N : News h₀ L s.heap news) (m1 : (n1, ({ cls := .type "tuple", data := .seq #[.ref t1, .int b1 k1] 0 } : Obj)) ∈ news) (m2 : (t1, ({ cls := .type "tuple", data := .seq v1.toArray 0 } : Obj)) ∈ news)
    (m3 : (n2, ({ cls := .type "tuple", data := .seq #[.ref t2, .int b2 k2] 0 } : Obj)) ∈ news) (m4 : (t2, ({ cls := .type "tuple", data := .seq v2.toArray 0 } : Obj)) ∈ news) (i1 : IntsAre v1 c1) (i2 : IntsAre v2 c2) (hu : A.units + 64 < cLine)
    (h : Q (.bool (decide (c1 = c2) && decide (b1 = b2))) s) : wpAny (model prog w) A (compareOp .Eq (.ref n1) (.ref n2)) Q E s := by
  have r1 : Reads s.heap (.ref n1) (.tuple [.tuple (c1.map .int), .int b1]) _ := reads_tuple_at (News.get N m1) rfl rfl (ReadsAll.cons (reads_tuple_ints (News.isTup N m2) i1) (ReadsAll.cons (Reads.int _ _) ReadsAll.nil))
  have r2 : Reads s.heap (.ref n2) (.tuple [.tuple (c2.map .int), .int b2]) _ := reads_tuple_at (News.get N m3) rfl rfl (ReadsAll.cons (reads_tuple_ints (News.isTup N m4) i2) (ReadsAll.cons (Reads.int _ _) ReadsAll.nil))
  refine eq_dataH r1 r2 ?_ ?_ hu ?_
  · simp [SeqAt.shaped, PyData.canLay0, PyData.canLayAll0, PyData.depth, PyData.depthAll, ke_canLayAll0, ke_depthAll]
  · simp [SeqAt.shaped, PyData.canLay0, PyData.canLayAll0, PyData.depth, PyData.depthAll, ke_canLayAll0, ke_depthAll]
  · have e : PyData.eqv (.tuple [.tuple (c1.map .int), .int b1]) (.tuple [.tuple (c2.map .int), .int b2]) = (decide (c1 = c2) && decide (b1 = b2)) := by
      simp only [PyData.eqv, PyData.eqvAll, ked_eqvAll, Bool.and_true]
      rfl
    rw [e]; exact h
theorem equal_claim (w : World) (mean : ExcName → Option Value) (mg mb : Str → Option Value) (W1 W2 : WsT) (c1 c2 : List Int) (o1 : WsOk W1 c1) (o2 : WsOk W2 c2) :
    PClaim w mean mg mb 76 (W1.objs w.params ++ W2.objs w.params) True [.ref W1.x, .ref W2.x] 4 120 (fun _ => .bool (decide (c1 = c2) && decide (W1.b = W2.b))) := by
  dsimp only [PClaim]
  k_fill
  intro dp un gd cn cs a ccd cl outer A₀ base h₀ L m s Q E news hB hF hK hN hT hk hown hpre hdp hun hret
  have hN2 := news_app hN hown
  dsimp only [WsT.objs, List.cons_append, List.nil_append] at hN2
  clear hN
  have i1 := o1.hI
  have i2 := o2.hI
  k_with_none
  k_with "compareOp Eq ref ref" => (refine eq_norm (by k_asm) (by k_mem) (by k_mem) (by k_mem) (by k_mem) (by assumption) (by assumption) ?hu ?_; (case hu => ((try dsimp only [ktrTop, Around.deeper, Around.mark, Around.in1, Around.under]); omega)))
  refine wpAny_call ?_
  k_dflt cell_enter
  k_steps
  exact cb_retB hret rfl (by assumption) (cb_drop (by assumption) (by intro p hp; (first | walk_at "subm" | simp [hp])))
end Mine
end
section
open PySem PySem.W PyProof.Rows
namespace Mine
theorem fresh_T12 : True := by
  k_with_none
  w_top off
  trivial
structure IS where
  n : Int
  b : Int
  nt : Int
  cnt : List Int
noncomputable def cntGrow (cnt : List Int) (b : Int) : List Int := if (cnt.length : Int) ≤ b then cnt ++ List.replicate (b - (cnt.length : Int) + 1).toNat 0 else cnt
noncomputable def initStep (s : IS) (c : Int) : IS :=
  if c = 32 then ⟨s.n + 1, s.b + 1, s.nt, s.cnt⟩
  else ⟨s.n + 1, 0, s.nt + 1, (cntGrow s.cnt s.b).set s.b.toNat ((cntGrow s.cnt s.b).getD s.b.toNat 0 + 1)⟩
noncomputable def initF (l : List Int) : IS := l.foldl initStep ⟨0, 0, 0, []⟩
structure ISt where
  n : Int
  b : Int
  nt : Int
  t1 : Tok
  t2 : Tok
  t3 : Tok
  l : Addr
  us : List Value
  k : Nat
  cnt : List Int
theorem allLt2 {l a b : Addr} {o1 o2 : Obj} {news : List (Addr × Obj)} (h1 : a < l) (h2 : b < l) (h3 : AllLt l news) : AllLt l ((a, o1) :: (b, o2) :: news) := by
  simp only [AllLt]; exact ⟨h1, h2, h3⟩
theorem initF_snoc (pre : List Int) (c : Int) : initF (pre ++ [c]) = initStep (initF pre) c := by simp [initF, List.foldl_append]
theorem rep_flat (n : Nat) : (List.replicate n [(0 : Int)]).flatten = List.replicate n 0 := by
  induction n with
  | zero => rfl
  | succ n ih => rw [List.replicate_succ, List.flatten_cons, ih, List.replicate_succ]; rfl
theorem one_eq {ch : Nat} {s : String} {c : Nat} (hs : Str.ofString s = ⟨#[c]⟩) (h : ((⟨#[ch]⟩ : Str) == Str.ofString s) = true) : ch = c := by
  rw [hs] at h
  have := eq_of_beq h
  simpa using this
theorem one_ne {ch : Nat} {s : String} {c : Nat} (hs : Str.ofString s = ⟨#[c]⟩) (h : ((⟨#[ch]⟩ : Str) == Str.ofString s) = false) : ch ≠ c := by
  rintro rfl
  rw [hs] at h
  simp at h
theorem str_blank : Str.ofString " " = ⟨#[32]⟩ := by decide +kernel
theorem str_tab : Str.ofString "\t" = ⟨#[9]⟩ := by decide +kernel
theorem init_sp {n b nt : Int} {cnt pre : List Int} {ch : Nat} {l : Addr} {us : List Value} {rest : List (Addr × Obj)} (hI : IntsAre us cnt) (hst : IS.mk n b nt cnt = initF pre) (hbl : ∀ ch ∈ pre, ch = 32 ∨ ch = 9) (hb0 : 0 ≤ b) (hb1 : b ≤ pre.length) (hcl : cnt.length ≤ pre.length) (hlt : AllLt l rest)
    (hc : ((⟨#[ch]⟩ : Str) == Str.ofString " ") = true) :
    IntsAre us cnt ∧ (IS.mk (n + 1) (b + 1) nt cnt = initF (pre ++ [(ch : Int)]) ∧ ∀ x ∈ pre ++ [(ch : Int)], x = 32 ∨ x = 9) ∧ 0 ≤ b + 1 ∧ b + 1 ≤ ((pre ++ [(ch : Int)]).length : Int) ∧ cnt.length ≤ (pre ++ [(ch : Int)]).length ∧ AllLt l rest := by
  have e := one_eq str_blank hc
  subst e
  refine ⟨hI, ⟨?_, ?_⟩, by omega, by simp; omega, by simp; omega, hlt⟩
  · rw [initF_snoc, ← hst]; rfl
  · intro x hx
    rcases List.mem_append.mp hx with h | h
    · exact hbl x h
    · left; simpa using h
theorem init_tab {n b nt : Int} {cnt cnt' pre : List Int} {ch : Nat} {l : Addr} {us : List Value} {rest : List (Addr × Obj)} (hI : IntsAre us (cnt'.set b.toNat (cnt'.getD b.toNat 0 + 1))) (hst : IS.mk n b nt cnt = initF pre) (hbl : ∀ ch ∈ pre, ch = 32 ∨ ch = 9) (hb0 : 0 ≤ b) (hb1 : b ≤ pre.length) (hcl : cnt.length ≤ pre.length) (hlt : AllLt l rest)
    (hc : ((⟨#[ch]⟩ : Str) == Str.ofString "\t") = true) (hg : cnt' = cntGrow cnt b) :
    IntsAre us (cnt'.set b.toNat (cnt'.getD b.toNat 0 + 1)) ∧ (IS.mk (n + 1) 0 (nt + 1) (cnt'.set b.toNat (cnt'.getD b.toNat 0 + 1)) = initF (pre ++ [(ch : Int)]) ∧ ∀ x ∈ pre ++ [(ch : Int)], x = 32 ∨ x = 9) ∧ (0 : Int) ≤ 0 ∧ (0 : Int) ≤ ((pre ++ [(ch : Int)]).length : Int) ∧ (cnt'.set b.toNat (cnt'.getD b.toNat 0 + 1)).length ≤ (pre ++ [(ch : Int)]).length ∧ AllLt l rest := by
  have e := one_eq str_tab hc
  subst e
  refine ⟨hI, ⟨?_, ?_⟩, by omega, by simp; omega, ?_, hlt⟩
  · rw [initF_snoc, ← hst, hg]; rfl
  · intro x hx
    rcases List.mem_append.mp hx with h | h
    · exact hbl x h
    · right; simpa using h
  · rw [hg]; unfold cntGrow; split <;> simp <;> omega
noncomputable abbrev IClaim (w : World) (mean : ExcName → Option Value) (mg mb : Str → Option Value) (ws : Str) (tw : Tok) (S : IS) : Prop :=
  ∀ (dp un : Nat) (gd : Option (List Code)) (cn : Str) (cs : Scope) (a : Addr) (ccd : Value) (cl : List (Str × Addr)) (outer : List Env) (A₀ : Around) (base h₀ : Heap) (L : Addr) (m : Str → Option Value) (s : Shared) (Q E : Value → Shared → Prop) (news : List (Addr × Obj)),
    Below A₀ base outer h₀ → Fr h₀ L s.heap m → (hd.heap_39 w.params).In h₀ → News h₀ L s.heap news → Top topProg LooseL mean mg mb h₀ → cs.kind = .function →
    dp + 4 < recursionLimit → un + 120 < cLine →
    (∀ (W : WsT) (h' : Heap) (tk' : Nat), Fr h₀ L h' m → News h₀ L h' (W.objs w.params ++ news) → IntsAre W.vs S.cnt → W.n = S.n → W.b = S.b → W.nt = S.nt → W.simple = decide (S.cnt.length ≤ 1) →
      AllLt W.x news → AllLt W.dx news → AllLt W.nm news → AllLt W.ct news → Q (.ref W.x) { s with heap := h', toks := tk' }) →
      wpAny (model Challenge.rw_pe0179_01.row.prog w) (ktrTop dp un gd cn cs L a ccd cl outer) (call (.ref 100) [.str ws tw]) Q E s
theorem wsNews {h₀ h : Heap} {L : Addr} {led news : List (Addr × Obj)} {P : Params} (W : WsT) (N : News h₀ L h led) (m1 : (W.x, instObj 100 W.dx) ∈ led)
    (m2 : (W.dx, dictOf [⟨PyData.keyHash P (Str.ofString "raw"), .str (Str.ofString "raw") W.t0, .str W.raw W.t1⟩, ⟨PyData.keyHash P (Str.ofString "n"), .str (Str.ofString "n") W.t2, .int W.n W.t3⟩,
     ⟨PyData.keyHash P (Str.ofString "nt"), .str (Str.ofString "nt") W.t4, .int W.nt W.t5⟩, ⟨PyData.keyHash P (Str.ofString "norm"), .str (Str.ofString "norm") W.t6, .ref W.nm⟩, ⟨PyData.keyHash P (Str.ofString "is_simple"), .str (Str.ofString "is_simple") W.t7, .bool W.simple⟩] 5) ∈ led)
    (m3 : (W.nm, ({ cls := .type "tuple", data := .seq #[.ref W.ct, .int W.b W.t8] 0 } : Obj)) ∈ led) (m4 : (W.ct, ({ cls := .type "tuple", data := .seq W.vs.toArray 0 } : Obj)) ∈ led) (r : ∀ p ∈ news, p ∈ led) : News h₀ L h (W.objs P ++ news) := by
  intro p hp
  simp only [WsT.objs, List.cons_append, List.nil_append, List.mem_cons] at hp
  rcases hp with rfl | rfl | rfl | rfl | hp
  · exact N _ m1
  · exact N _ m2
  · exact N _ m3
  · exact N _ m4
  · exact N _ (r _ hp)
theorem lead_split {lead pre post : List Int} {c : Int} (h : lead ++ [120, 32] = pre ++ c :: post) (hl : ∀ x ∈ lead, x = 32 ∨ x = 9) (hp : ∀ x ∈ pre, x = 32 ∨ x = 9) (hc : c ≠ 32 ∧ c ≠ 9) : pre = lead := by
  induction lead generalizing pre with
  | nil =>
    cases pre with
    | nil => rfl
    | cons p r =>
      simp at h
      have := hp p (by simp)
      omega
  | cons a r ih =>
    cases pre with
    | nil =>
      simp at h
      have := hl a (by simp)
      omega
    | cons p q =>
      simp at h
      rw [h.1, ih h.2 (fun x hx => hl x (by simp [hx])) (fun x hx => hp x (by simp [hx]))]
theorem init_claim (w : World) (mean : ExcName → Option Value) (mg mb : Str → Option Value) (ws : Str) (tw : Tok) (lead : List Int) (hw : KStt.codes ws = lead ++ [120, 32]) (hle : ∀ x ∈ lead, x = 32 ∨ x = 9) (hl : ws.length ≤ 100) :
    IClaim w mean mg mb ws tw (initF lead) := by
  dsimp only [IClaim]
  k_fill
  intro dp un gd cn cs a ccd cl outer A₀ base h₀ L m s Q E news hB hF hK hN hT hk hdp hun hret
  k_with_none
  k_with "!call type:tuple" => (k_here; (with_reducible show wpAny _ _ (call (Value.type "tuple") [Value.ref _]) _ _ _); k_dflt (refine' tupleN ?k1 ?k2 ?k3 ?k4 ?k5 ?_; (case k1 => k_asm); (case k2 => k_asm); (case k3 => k_mem); (case k4 => assumption); (case k5 => omega); k_whole); intro D' h' F' N' l1; (try k_lt l1); (revert D' h'; intros))
  k_with "!mine_same" => (intro z h1 h2 h3; (try dsimp only at h2); (simp only [List.forall_mem_cons, List.not_mem_nil, false_implies, implies_true, and_true, ne_eq] at h2); simp [kstB, h1, h2])
  k_dflt (refine' call_cls ?k1 ?k2 ?k3 ?k4 ?k5 ?k6 ?_; (case k1 => k_asm); (case k2 => k_asm); (case k3 => k_asm); (case k4 => k_is); (case k5 => k_is); (case k6 => k_is))
  intro x' d' h' F' N' l1 l2
  clear hN hF
  replace l1 := allLt_of l1
  k_lt2 l2
  have kdm := kdMark
  k_dflt cell_enter
  k_steps
  rename_i l0 _ l4 _ _ _ _ lF lN
  refine' text_loop (σ := ISt) (fun c => (c.l, listOf c.us.toArray c.k) :: (x', instObj 100 d') :: (d', dictOf [⟨PyData.keyHash w.params (Str.ofString "raw"), .str (Str.ofString "raw") _, .str ws tw⟩] 1) :: news)
    (fun c => [(Str.ofString "n", .int c.n c.t1), (Str.ofString "b", .int c.b c.t2), (Str.ofString "nt", .int c.nt c.t3), (Str.ofString "count", .ref c.l)]) []
    (fun pre c => IntsAre c.us c.cnt ∧ (IS.mk c.n c.b c.nt c.cnt = initF pre ∧ ∀ ch ∈ pre, ch = 32 ∨ ch = 9) ∧ 0 ≤ c.b ∧ c.b ≤ pre.length ∧ c.cnt.length ≤ pre.length ∧ AllLt c.l ((x', instObj 100 d') :: (d', dictOf [] 0) :: news)) ⟨0, 0, 0, _, _, _, l0, [], 0, []⟩ rfl lF lN ?hn ?hk ?hp ?turn ?done
  case hn => kd_inAll
  case hk => kst_all
  case hp => exact ⟨.nil, ⟨rfl, fun _ h => by cases h⟩, Int.le_refl _, Int.le_refl _, Nat.le_refl _, by simp only [AllLt]; exact l4.2⟩
  case turn =>
    clear lF lN
    rintro ⟨n, b, nt, t1, t2, t3, l, us, k, cnt⟩ pre post ch t u h tk own hcodes hoff hX9
    refine cps ?_
    intro C9 hC9
    obtain ⟨hI, ⟨hst, hbl⟩, hb0, hb1, hcl, hlt⟩ := hX9
    refine hC9 ?_
    clear hC9 C9
    rintro F N
    dsimp only at hI hst hb0 hb1 hcl hlt
    simp only [AllLt] at hlt
    dsimp only at F N ⊢
    simp only [List.cons_append] at N
    dsimp only [List.map_cons] at hoff
    have hlen : (KStt.codes ws).length ≤ 100 := by rw [KStt.codes_length]; exact hl
    rw [hcodes, List.length_append, List.length_cons] at hlen
    try k_fold
    k_steps
    · refine' tj_end (c := ⟨n + 1, b + 1, nt, _, _, _, l, us, k, cnt⟩) (by assumption) (by assumption) ?hn (by intro p hp; kst_mem) hoff ?hk ?hr ?hp
      case hn => kd_inAll
      case hk => kst_all
      case hr => k_extra "!mine_same"
      case hp => exact init_sp hI hst hbl hb0 hb1 hcl (allLt2 hlt.1 hlt.2.1 hlt.2.2) (by assumption)
    · rename _ ∧ _ => l9
      rename IntsAre (List.set _ _ _) _ => i9
      refine' tj_end (c := ⟨n + 1, 0, nt + 1, _, _, _, _, _, _, _⟩) (by assumption) (by assumption) ?hn (by intro p hp; kst_mem) ?ho ?hk ?hr ?hp
      case hk => kst_all
      case hn => kd_inAll
      case hr => k_extra "!mine_same"
      case ho => exact ownOff_new hoff (allLt_app l9.2.2.2.2.2).2
      case hp => exact init_tab i9 hst hbl hb0 hb1 hcl (allLt2 l9.2.2.2.1 l9.2.2.2.2.1 (allLt_app l9.2.2.2.2.2).1) (by assumption) (by rw [rep_flat, cntGrow, if_pos (by assumption)])
    · rename IntsAre (List.set _ _ _) _ => i9
      refine' tj_end (c := ⟨n + 1, 0, nt + 1, _, _, _, l, us.set b.toNat _, k, cnt.set b.toNat (cnt.getD b.toNat 0 + 1)⟩) (by assumption) (by assumption) ?hn (by intro p hp; kst_mem) hoff ?hk ?hr ?hp
      case hk => kst_all
      case hn => kd_inAll
      case hr => k_extra "!mine_same"
      case hp => exact init_tab i9 hst hbl hb0 hb1 hcl (allLt2 hlt.1 hlt.2.1 hlt.2.2) (by assumption) (by rw [cntGrow, if_neg (by assumption)])
    · rename_i D1 _ la D2 _ lb _ _ _ _ _ kF kN _ _
      have hpl : pre = lead := lead_split (hw.symm.trans hcodes) hle hbl ⟨fun e => one_ne str_blank (by assumption) (by omega), fun e => one_ne str_tab (by assumption) (by omega)⟩
      subst hpl
      refine' hret ⟨x', d', D2, D1, _, _, _, _, _, _, _, _, _, ws, n, nt, _, b, us⟩ _ _ kF (wsNews _ kN ?m1 ?m2 ?m3 ?m4 ?r) ?a1 ?a2 ?a3 ?a4 ?a5 ?b1 ?b2 ?b3 ?b4
      case m1 => (dsimp only; k_mem)
      case m2 => (dsimp only; k_mem)
      case m3 => (dsimp only; k_mem)
      case m4 => (dsimp only; k_mem)
      case r => (intro p hp; (first | walk_at "subm" | simp [hp]))
      case a1 => (rw [← hst]; exact hI)
      case a2 => rw [← hst]
      case a3 => rw [← hst]
      case a4 => rw [← hst]
      case a5 => (rw [← hst]; dsimp only; exact decide_eq_decide.mpr (by omega))
      case b1 => exact allLt_of fun p hp => Nat.lt_trans (tb_ltOf l1 p hp) l2
      case b2 => exact l1
      case b3 => exact (allLt_app lb.2.2.2.2).1
      case b4 => exact (allLt_app la.2.2.2).1
  case done =>
    clear lF lN
    rintro ⟨n, b, nt, t1, t2, t3, l, us, k, cnt⟩ u h tk hX9
    refine cps ?_
    intro C9 hC9
    obtain ⟨hI, ⟨hst, hbl⟩, hb0, hb1, hcl, hlt⟩ := hX9
    refine hC9 ?_
    clear hC9 C9
    rintro F N
    exfalso
    have := hbl 120 (by rw [hw]; simp)
    omega
end Mine
end
section
open PySem PySem.W PyProof.Rows
namespace Mine
theorem fresh_T13 : True := by
  k_with_none
  w_top off
  trivial
noncomputable def wordD (p : Int × Str) : Dat := .tuple [.int p.1, .str p.2]
noncomputable def leadStep (st : Str × Int) (p : Int × Str) : Str × Int := (st.1 ++ Txt.mul (Str.ofString "\t") (p.1 - st.2) ++ Txt.mul (Str.ofString " ") (p.2.length : Int), p.1)
noncomputable def leadSt (ps : List (Int × Str)) : Str × Int := ps.foldl leadStep (Str.ofString "", 1)
noncomputable def leadF (ps : List (Int × Str)) (rows : Int) : Str := (leadSt ps).1 ++ Txt.mul (Str.ofString "\t") (rows - (leadSt ps).2)
structure LSt where
  lead : Str
  row : Int
  t1 : Tok
  t2 : Tok
theorem word_of {add : List (Addr × Obj)} {us : List Value} {ps : List (Int × Str)} (hD : DatAll add us (ps.map wordD)) {i : Nat} {v : Value} (hv : us[i]? = some v) :
    ∃ (h : i < ps.length) (T : Addr) (n : Nat) (t1 t2 : Tok), v = .ref T ∧ (T, ({ cls := .type "tuple", data := .seq #[.int ps[i].1 t1, .str ps[i].2 t2] n } : Obj)) ∈ add := by
  obtain ⟨hi, hd⟩ := dget hD hv
  refine ⟨hi, ?_⟩
  obtain ⟨T, v1, v2, n, rfl, hm, h1, h2⟩ := dtup2 hd
  obtain ⟨t1, rfl⟩ := din_int h1
  obtain ⟨t2, rfl⟩ := din_str h2
  exact ⟨T, n, t1, t2, rfl, hm⟩
theorem leadSt_snoc (ps : List (Int × Str)) (i : Nat) (h : i < ps.length) : leadSt (ps.take (i + 1)) = leadStep (leadSt (ps.take i)) ps[i] := by
  unfold leadSt
  rw [List.take_add_one, List.getElem?_eq_getElem h, Option.toList_some, List.foldl_append]
  rfl
theorem lead_claim (w : World) (mean : ExcName → Option Value) (mg mb : Str → Option Value) (l : Addr) (us : List Value) (k : Nat) (add : List (Addr × Obj)) (ps : List (Int × Str)) (hD : DatAll add us (ps.map wordD)) (rows : Int) (tr : Tok)
    (hb : ∀ p ∈ ps, 0 ≤ p.1 ∧ p.1 ≤ 100 ∧ p.2.length ≤ 100) (hr : 0 ≤ rows ∧ rows ≤ 100) (hlp : ps.length ≤ 8) :
    PClaim w mean mg mb 184 ((l, listOf us.toArray k) :: add) True [.ref l, .int rows tr] 4 120 (fun t => .str (leadF ps rows) t) := by
  dsimp only [PClaim]
  k_fill
  intro dp un gd cn cs a ccd cl outer A₀ base h₀ L m s Q E news hB hF hK hN hT hk hown hpre hdp hun hret
  have hN2 := news_app hN hown
  simp only [List.cons_append] at hN2
  clear hN
  have kdm := kdMark
  k_with_none
  k_with "!mine_sameL" => (intro z h2 h3; (try dsimp only at h2); (simp only [List.forall_mem_cons, List.not_mem_nil, false_implies, implies_true, and_true, ne_eq] at h2); (simp only [List.contains_cons, List.contains_nil, Bool.or_false, Bool.or_eq_false_iff, beq_eq_false_iff_ne, ne_eq] at h3); simp [kstB, h2, h3])
  refine wpAny_call ?_
  k_dflt cell_enter
  k_steps
  refine For_turns (by assumption) ?_
  k_steps
  rename_i lF lN
  refine' list_loop (σ := LSt) (vs := us) (nn := k) (fun c => (l, listOf us.toArray k) :: (add ++ news)) (fun c => [(Str.ofString "lead", .str c.lead c.t1), (Str.ofString "row", .int c.row c.t2)]) [Str.ofString "number", Str.ofString "word"]
    (fun i c => (c.lead, c.row) = leadSt (ps.take i) ∧ c.lead.length ≤ 200 * i ∧ 0 ≤ c.row ∧ c.row ≤ 100) ⟨_, _, _, _⟩ rfl lF lN ?hn ?hl ?hk ?hp ?turn ?done
  case hn => kd_inAll
  case hl => exact List.mem_cons_self ..
  case hk => kst_all
  case hp => exact ⟨rfl, Nat.le_of_ble_eq_true rfl, by show (0 : Int) ≤ 1; decide, by show (1 : Int) ≤ 100; decide⟩
  case turn =>
    clear lF lN
    rintro ⟨lead, row, t1, t2⟩ i v u h tk own hv hoff hl hX9
    refine cps ?_
    intro C9 hC9
    obtain ⟨hst, hlen, hr0, hr1⟩ := hX9
    refine hC9 ?_
    clear hC9 C9
    rintro F N
    dsimp only at hst hlen hr0 hr1 F
    refine cps ?_
    intro C9 hC9
    obtain ⟨hi, T, nT, w1, w2, rfl, hT⟩ := word_of hD hv
    refine hC9 ?_
    clear hC9 C9
    have hN3 := news_app (own := [(T, ({ cls := .type "tuple", data := .seq #[.int ps[i].1 w1, .str ps[i].2 w2] nT } : Obj))]) N (by intro p hp; rw [List.mem_singleton.mp hp]; simp [hT])
    simp only [List.cons_append, List.nil_append] at hN3
    clear N
    obtain ⟨hb1, hb2, hb3⟩ := hb ps[i] (List.getElem_mem hi)
    generalize hpi : ps[i] = pi at *
    obtain ⟨num, word⟩ := pi
    dsimp only at hN3 hb1 hb2 hb3
    try k_fold
    k_steps
    refine' tl_end (c := ⟨_, num, _, _⟩) (by assumption) (by assumption) ?hn (by intro p hp; kst_mem) hoff (List.mem_cons_self ..) ?hk ?hr ?hp
    case hk => kst_all
    case hn => kd_inAll
    case hr => k_extra "!mine_sameL"
    case hp =>
      refine ⟨?_, ?_, hb1, hb2⟩
      · rw [leadSt_snoc ps i hi, hpi, ← hst]; rfl
      · dsimp only
        rw [Str.length_append, Str.length_append]
        have g1 := len_mul_one (N := 100) str_tab (n := num - row) (by omega)
        have g2 := len_mul_one (N := 100) str_blank (n := (word.length : Int)) (by omega)
        omega
  case done =>
    clear lF lN
    rintro ⟨lead, row, t1, t2⟩ u h tk hX9
    refine cps ?_
    intro C9 hC9
    obtain ⟨hst, hlen, hr0, hr1⟩ := hX9
    refine hC9 ?_
    clear hC9 C9
    rintro F N
    dsimp only at hst hlen hr0 hr1 F
    have hul : us.length = ps.length := by have := hD.length; rw [List.length_map] at this; exact this
    rw [hul] at hst hlen
    rw [List.take_length] at hst
    try k_fold
    k_steps
    refine cb_retS hret ?_ (by assumption) (cb_drop (by assumption) (by intro p hp; (first | walk_at "subm" | simp [hp])))
    unfold leadF
    rw [← hst]
end Mine
end
section
open PySem PySem.Sre
namespace Mine
theorem fresh_S1 : True := by
  k_with_none
  w_top off
  trivial
theorem run_step {m m' : M} {n : Nat} (ho : m.outcome = none) (h : m.step = m') : m.runFor (n + 1) = m'.runFor n := by
  show (if m.outcome.isSome = true then m else m.step.runFor n) = _
  rw [ho, h]; rfl
theorem run_done {m : M} {n : Nat} {o : Sre.Outcome} (h : m.outcome = some o) : m.runFor n = m := by
  cases n with
  | zero => rfl
  | succ n =>
    show (if m.outcome.isSome = true then m else m.step.runFor n) = _
    rw [h]; rfl
theorem run_add (a b : Nat) (m : M) : m.runFor (a + b) = (m.runFor a).runFor b := by
  induction a generalizing m with
  | zero => rw [Nat.zero_add]; rfl
  | succ a ih =>
    rw [Nat.succ_add]
    show (if m.outcome.isSome = true then m else m.step.runFor (a + b)) = M.runFor b (if m.outcome.isSome = true then m else m.step.runFor a)
    cases h : m.outcome with
    | none => simp only [Option.isSome_none, Bool.false_eq_true, if_false]; exact ih _
    | some o => simp only [Option.isSome_some, if_true]; exact (run_done h).symm
/-- the machine comes to its end within n steps, with this outcome, start and end -/
noncomputable def Ends (m : M) (n : Nat) (o : Sre.Outcome) (b e : Nat) : Prop := ∃ m', m.runFor n = m' ∧ m'.outcome = some o ∧ m'.start = b ∧ m'.handed = e
theorem Ends.step {m m' : M} {n : Nat} {o : Sre.Outcome} {b e : Nat} (ho : m.outcome = none) (h : m.step = m') (k : Ends m' n o b e) : Ends m (n + 1) o b e := by
  obtain ⟨m₁, h1, r⟩ := k
  exact ⟨m₁, (run_step ho h).trans h1, r⟩
theorem Ends.more {m : M} {n k : Nat} {o : Sre.Outcome} {b e : Nat} (h : Ends m n o b e) (hk : n ≤ k) : Ends m k o b e := by
  obtain ⟨m₁, h1, h2, r⟩ := h
  refine ⟨m₁, ?_, h2, r⟩
  obtain ⟨d, rfl⟩ := Nat.le.dest hk
  rw [run_add, h1]
  exact run_done h2
theorem Ends.zero {m : M} {o : Sre.Outcome} {b e : Nat} (h : m.outcome = some o) (hb : m.start = b) (he : m.handed = e) : Ends m 0 o b e := ⟨m, rfl, h, hb, he⟩
noncomputable def eolCode : Array Nat := #[14, 9, 4, 1, 2, 16, 10, 16, 13, 0, 7, 7, 16, 13, 16, 10, 15, 18, 5, 16, 10, 15, 13, 11, 16, 13, 5, 5, 0, 16, 10, 1, 15, 2, 0, 1]
noncomputable abbrev fr0 (s : Nat) : Sre.Frame := { wait := .nextStart, pc := 10, pos := s, outermost := true }
noncomputable abbrev frB (s k : Nat) : Sre.Frame := { wait := .nextBranch, pc := k, pos := s, outermost := true }
noncomputable abbrev frN (s : Nat) : Sre.Frame := { wait := .lookNot, pc := 26, pos := s, outermost := true }
noncomputable abbrev st (t : Array Nat) (lim s : Nat) (pc pos handed : Nat) (o : Bool) (frames : List Sre.Frame) (weight : Nat) (answer : Option Bool) (seen : Seen) : M :=
  { code := eolCode, text := t, lim := lim, start := s, lastStart := lim, mustAdvance := false, pc := pc, pos := pos, handed := handed, outermost := o, marks := #[], frames := frames, weight := weight, answer := answer, seen := seen }
section
variable {t : Array Nat} {lim s pos handed weight : Nat} {o : Bool} {frames : List Sre.Frame} {seen : Seen}
noncomputable def litStep (t : Array Nat) (lim s : Nat) (pc pos handed : Nat) (o : Bool) (frames : List Sre.Frame) (weight : Nat) (seen : Seen) (c : Nat) : M :=
  if pos ≥ lim then (st t lim s pc pos handed o frames weight none (seen.add 16)).say false else
      match (Except.ok (t.getD pos 0 == c, seen.add 16) : Except String (Bool × Seen)) with
      | .error why => (st t lim s pc pos handed o frames weight none (seen.add 16)).stick why
      | .ok (false, seen') => { st t lim s pc pos handed o frames weight none (seen.add 16) with seen := seen' }.say false
      | .ok (true, seen') => { st t lim s pc pos handed o frames weight none (seen.add 16) with seen := seen', pc := pc + 2, pos := pos + 1 }
theorem lit_yes (pc c : Nat) (hp : pos < lim) (hc : t.getD pos 0 = c) (h : (st t lim s pc pos handed o frames weight none seen).step = litStep t lim s pc pos handed o frames weight seen c) :
    (st t lim s pc pos handed o frames weight none seen).step = st t lim s (pc + 2) (pos + 1) handed o frames weight none (seen.add 16) := by
  rw [h, litStep, if_neg (by (first | lia | omega)), hc, beq_self_eq_true]
theorem lit_no (pc c : Nat) (hc : pos ≥ lim ∨ t.getD pos 0 ≠ c) (h : (st t lim s pc pos handed o frames weight none seen).step = litStep t lim s pc pos handed o frames weight seen c) :
    (st t lim s pc pos handed o frames weight none seen).step = st t lim s pc pos handed o frames weight (some false) (seen.add 16) := by
  rw [h, litStep]
  by_cases hp : pos ≥ lim
  · rw [if_pos hp]; rfl
  · have hc' := hc.resolve_left hp
    rw [if_neg hp, beq_eq_false_iff_ne.mpr hc']; rfl
end
/-- the three ends of an attempt at a line end -/
theorem eol_crlf {t : Array Nat} {lim i : Nat} {seen : Seen} (h1 : t.getD i 0 = 13) (h2 : t.getD (i + 1) 0 = 10) (l1 : i < lim) (l2 : i + 1 < lim) :
    Ends (st t lim i 10 i i true [fr0 i] 1 none seen) 40 .matched i (i + 2) := by
  refine Ends.more (n := 8) ?_ (by decide)
  refine Ends.step rfl (m' := st t lim i 12 i i true [frB i 11, fr0 i] 2 none (seen.add 7)) rfl ?_
  refine Ends.step rfl (lit_yes 12 13 l1 h1 rfl) ?_
  refine Ends.step rfl (lit_yes 14 10 l2 h2 rfl) ?_
  refine Ends.step rfl (m' := st t lim i 35 (i + 1 + 1) i true [frB i 11, fr0 i] 2 none ((((seen.add 7).add 16).add 16).add 15)) rfl ?_
  refine Ends.step rfl (m' := st t lim i 35 (i + 1 + 1) (i + 1 + 1) true [frB i 11, fr0 i] 2 (some true) (((((seen.add 7).add 16).add 16).add 15).add 1)) rfl ?_
  refine Ends.step rfl (m' := st t lim i 11 i (i + 1 + 1) true [fr0 i] 1 (some true) (((((seen.add 7).add 16).add 16).add 15).add 1)) rfl ?_
  refine Ends.step rfl (m' := st t lim i 10 i (i + 1 + 1) true [] 0 (some true) (((((seen.add 7).add 16).add 16).add 15).add 1)) rfl ?_
  exact Ends.step rfl rfl (Ends.zero rfl rfl rfl)
theorem eol_lf {t : Array Nat} {lim i : Nat} {seen : Seen} (h1 : t.getD i 0 = 10) (l1 : i < lim) :
    Ends (st t lim i 10 i i true [fr0 i] 1 none seen) 40 .matched i (i + 1) := by
  refine Ends.more (n := 9) ?_ (by decide)
  refine Ends.step rfl (m' := st t lim i 12 i i true [frB i 11, fr0 i] 2 none (seen.add 7)) rfl ?_
  refine Ends.step rfl (lit_no 12 13 (.inr (by rw [h1]; decide)) rfl) ?_
  refine Ends.step rfl (m' := st t lim i 19 i i true [frB i 18, fr0 i] 2 none ((seen.add 7).add 16)) rfl ?_
  refine Ends.step rfl (lit_yes 19 10 l1 h1 rfl) ?_
  refine Ends.step rfl (m' := st t lim i 35 (i + 1) i true [frB i 18, fr0 i] 2 none ((((seen.add 7).add 16).add 16).add 15)) rfl ?_
  refine Ends.step rfl (m' := st t lim i 35 (i + 1) (i + 1) true [frB i 18, fr0 i] 2 (some true) (((((seen.add 7).add 16).add 16).add 15).add 1)) rfl ?_
  refine Ends.step rfl (m' := st t lim i 18 i (i + 1) true [fr0 i] 1 (some true) (((((seen.add 7).add 16).add 16).add 15).add 1)) rfl ?_
  refine Ends.step rfl (m' := st t lim i 10 i (i + 1) true [] 0 (some true) (((((seen.add 7).add 16).add 16).add 15).add 1)) rfl ?_
  exact Ends.step rfl rfl (Ends.zero rfl rfl rfl)
theorem eol_cr {t : Array Nat} {lim i : Nat} {seen : Seen} (h1 : t.getD i 0 = 13) (l1 : i < lim) (h2 : i + 1 ≥ lim ∨ t.getD (i + 1) 0 ≠ 10) :
    Ends (st t lim i 10 i i true [fr0 i] 1 none seen) 40 .matched i (i + 1) := by
  refine Ends.more (n := 16) ?_ (by decide)
  refine Ends.step rfl (m' := st t lim i 12 i i true [frB i 11, fr0 i] 2 none (seen.add 7)) rfl ?_
  refine Ends.step rfl (lit_yes 12 13 l1 h1 rfl) ?_
  refine Ends.step rfl (lit_no 14 10 h2 rfl) ?_
  refine Ends.step rfl (m' := st t lim i 19 i i true [frB i 18, fr0 i] 2 none (((seen.add 7).add 16).add 16)) rfl ?_
  refine Ends.step rfl (lit_no 19 10 (.inr (by rw [h1]; decide)) rfl) ?_
  refine Ends.step rfl (m' := st t lim i 24 i i true [frB i 23, fr0 i] 2 none ((((seen.add 7).add 16).add 16).add 16)) rfl ?_
  refine Ends.step rfl (lit_yes 24 13 l1 h1 rfl) ?_
  refine Ends.step rfl (m' := st t lim i 29 (i + 1) (i + 1) false [frN (i + 1), frB i 23, fr0 i] 3 none ((((((seen.add 7).add 16).add 16).add 16).add 16).add 5)) rfl ?_
  refine Ends.step rfl (lit_no 29 10 h2 rfl) ?_
  refine Ends.step rfl (m' := st t lim i 32 (i + 1) (i + 1) true [frB i 23, fr0 i] 2 none (((((((seen.add 7).add 16).add 16).add 16).add 16).add 5).add 16)) rfl ?_
  refine Ends.step rfl (m' := st t lim i 35 (i + 1) (i + 1) true [frB i 23, fr0 i] 2 none ((((((((seen.add 7).add 16).add 16).add 16).add 16).add 5).add 16).add 15)) rfl ?_
  refine Ends.step rfl (m' := st t lim i 35 (i + 1) (i + 1) true [frB i 23, fr0 i] 2 (some true) (((((((((seen.add 7).add 16).add 16).add 16).add 16).add 5).add 16).add 15).add 1)) rfl ?_
  refine Ends.step rfl (m' := st t lim i 23 i (i + 1) true [fr0 i] 1 (some true) (((((((((seen.add 7).add 16).add 16).add 16).add 16).add 5).add 16).add 15).add 1)) rfl ?_
  refine Ends.step rfl (m' := st t lim i 10 i (i + 1) true [] 0 (some true) (((((((((seen.add 7).add 16).add 16).add 16).add 16).add 5).add 16).add 15).add 1)) rfl ?_
  exact (Ends.step rfl rfl (Ends.zero rfl rfl rfl)).more (by decide)
noncomputable def isEol (c : Nat) : Bool := c == 10 || c == 13
theorem inSet_eol (c : Nat) (seen : Seen) : ∃ seen', inSet eolCode c 36 5 true seen = .ok (isEol c, seen') := by
  by_cases h : c = 10
  · subst h; exact ⟨_, rfl⟩
  · by_cases h' : c = 13
    · subst h'; exact ⟨_, rfl⟩
    · refine ⟨((seen.add 16).add 16).add 0, ?_⟩
      have e : isEol c = false := by simp [isEol, h, h']
      rw [e]
      show (if (c == 10) = true then Except.ok (true, seen.add 16) else if (c == 13) = true then Except.ok (true, (seen.add 16).add 16) else Except.ok (false, ((seen.add 16).add 16).add 0) : Except String (Bool × Seen)) = _
      rw [if_neg (by simpa using h), if_neg (by simpa using h')]
noncomputable abbrev base (t : Array Nat) (lim p : Nat) (seen : Seen) : M :=
  { code := eolCode, text := t, lim := lim, start := p, lastStart := lim, mustAdvance := false, pc := 10, pos := p, handed := p, marks := #[], seen := seen }
theorem admitted_some {t : Array Nat} {lim p : Nat} {seen₀ : Seen} : ∀ (n s j : Nat) (seen : Seen), n = lim + 1 - s → s ≤ j → j < lim → (∀ i, s ≤ i → i < j → isEol (t.getD i 0) = false) → isEol (t.getD j 0) = true →
    ∃ seen', M.admitted (base t lim p seen₀) n s seen = .ok (some j, seen')
  | 0, s, j, seen, hn, hs, hj, _, _ => by (first | lia | omega)
  | n + 1, s, j, seen, hn, hs, hj, hb, hc => by
    obtain ⟨seen', hi⟩ := inSet_eol (t.getD s 0) seen
    have hlt : ¬ (s ≥ lim) := by (first | lia | omega)
    have e : M.admitted (base t lim p seen₀) (n + 1) s seen = (match inSet eolCode (t.getD s 0) 36 5 true seen with
      | .ok (true, seen) => .ok (some s, seen)
      | .ok (false, seen) => M.admitted (base t lim p seen₀) n (s + 1) seen
      | .error why => .error why) := by
      show (if s ≥ lim then _ else _) = _
      rw [if_neg hlt]; rfl
    rw [e, hi]
    by_cases hsj : s = j
    · subst hsj
      rw [hc]
      exact ⟨_, rfl⟩
    · rw [hb s (Nat.le_refl _) (by (first | lia | omega))]
      exact admitted_some n (s + 1) j seen' (by (first | lia | omega)) (by (first | lia | omega)) hj (fun i h1 h2 => hb i (by (first | lia | omega)) h2) hc
theorem admitted_none {t : Array Nat} {lim p : Nat} {seen₀ : Seen} : ∀ (n s : Nat) (seen : Seen), (∀ i, s ≤ i → i < lim → isEol (t.getD i 0) = false) →
    ∃ seen', M.admitted (base t lim p seen₀) n s seen = .ok (none, seen')
  | 0, s, seen, _ => ⟨seen, rfl⟩
  | n + 1, s, seen, hb => by
    obtain ⟨seen', hi⟩ := inSet_eol (t.getD s 0) seen
    by_cases hlt : s ≥ lim
    · refine ⟨seen, ?_⟩
      show (if s ≥ lim then _ else _) = _
      rw [if_pos hlt]
    · have e : M.admitted (base t lim p seen₀) (n + 1) s seen = (match inSet eolCode (t.getD s 0) 36 5 true seen with
        | .ok (true, seen) => .ok (some s, seen)
        | .ok (false, seen) => M.admitted (base t lim p seen₀) n (s + 1) seen
        | .error why => .error why) := by
        show (if s ≥ lim then _ else _) = _
        rw [if_neg hlt]; rfl
      rw [e, hi, hb s (Nat.le_refl _) (by (first | lia | omega))]
      exact admitted_none n (s + 1) seen' (fun i h1 h2 => hb i (by (first | lia | omega)) h2)
theorem eol_search (t : Array Nat) (p : Nat) (hp : p < t.size) : forSearch eolCode t 0 p t.size false = (base t t.size p (Seen.add {} 14)).attemptFrom p true := by
  show (if (decide (p > t.size) || decide (t.size - p < 1)) = true then _ else _) = _
  rw [if_neg (by simp; (first | lia | omega))]
  rfl
/-- how far a line end goes -/
noncomputable def eolLen (t : Array Nat) (j : Nat) : Nat := if t.getD j 0 = 13 ∧ j + 1 < t.size ∧ t.getD (j + 1) 0 = 10 then 2 else 1
theorem eol_found {t : Array Nat} {p j : Nat} (hp : p ≤ j) (hj : j < t.size) (hb : ∀ i, p ≤ i → i < j → isEol (t.getD i 0) = false) (hc : isEol (t.getD j 0) = true) :
    Ends (forSearch eolCode t 0 p t.size false) 40 .matched j (j + eolLen t j) := by
  rw [eol_search t p (by (first | lia | omega))]
  obtain ⟨seen', ha⟩ := admitted_some (p := p) (seen₀ := Seen.add {} 14) (t.size + 1 - p) p j (Seen.add {} 14) rfl hp hj hb hc
  have e : (base t t.size p (Seen.add {} 14)).attemptFrom p true = st t t.size j 10 j j true [fr0 j] 1 none seen' := by
    show (match M.admitted (base t t.size p (Seen.add {} 14)) (t.size + 1 - p) p (Seen.add {} 14) with
      | .ok (some s, seen) => M.attemptAt { base t t.size p (Seen.add {} 14) with mustAdvance := false, seen } s true
      | .ok (none, seen) => M.say { base t t.size p (Seen.add {} 14) with seen } false
      | .error why => M.stick _ why) = _
    rw [ha]; rfl
  rw [e]
  unfold eolLen
  have hc' : t.getD j 0 = 10 ∨ t.getD j 0 = 13 := by simpa [isEol] using hc
  by_cases h : t.getD j 0 = 13
  · by_cases h2 : j + 1 < t.size ∧ t.getD (j + 1) 0 = 10
    · rw [if_pos ⟨h, h2⟩]
      exact eol_crlf h h2.2 hj h2.1
    · rw [if_neg (fun q => h2 q.2)]
      refine eol_cr h hj ?_
      by_cases q : j + 1 < t.size
      · exact .inr fun q' => h2 ⟨q, q'⟩
      · exact .inl (by (first | lia | omega))
  · rw [if_neg (fun q => h q.1)]
    exact eol_lf (hc'.resolve_right h) hj
theorem eol_nothing {t : Array Nat} {p : Nat} (hp : p ≤ t.size) (hb : ∀ i, p ≤ i → i < t.size → isEol (t.getD i 0) = false) :
    ∃ b e, Ends (forSearch eolCode t 0 p t.size false) 40 .failed b e := by
  by_cases h : p < t.size
  · rw [eol_search t p h]
    obtain ⟨seen', ha⟩ := admitted_none (p := p) (seen₀ := Seen.add {} 14) (t.size + 1 - p) p (Seen.add {} 14) hb
    have e : (base t t.size p (Seen.add {} 14)).attemptFrom p true = M.say (base t t.size p seen') false := by
      show (match M.admitted (base t t.size p (Seen.add {} 14)) (t.size + 1 - p) p (Seen.add {} 14) with
        | .ok (some s, seen) => M.attemptAt { base t t.size p (Seen.add {} 14) with mustAdvance := false, seen } s true
        | .ok (none, seen) => M.say { base t t.size p (Seen.add {} 14) with seen } false
        | .error why => M.stick _ why) = _
      rw [ha]
    rw [e]
    exact ⟨_, _, (Ends.step rfl rfl (Ends.zero rfl rfl rfl)).more (by decide)⟩
  · have e : forSearch eolCode t 0 p t.size false = M.say { code := eolCode, text := t, lim := t.size, start := p, mustAdvance := false, pc := 10, pos := p, handed := p, marks := #[], seen := Seen.add {} 14 } false := by
      show (if (decide (p > t.size) || decide (t.size - p < 1)) = true then _ else _) = _
      rw [if_pos (by simp; (first | lia | omega))]
      rfl
    rw [e]
    exact ⟨_, _, (Ends.step rfl rfl (Ends.zero rfl rfl rfl)).more (by decide)⟩
noncomputable def dotCode : Array Nat := #[14, 4, 0, 1, 1, 6, 1, 16, 46, 1]
noncomputable abbrev frD (s : Nat) (o : Bool) : Sre.Frame := { wait := .nextStart, pc := 5, pos := s, outermost := o }
noncomputable abbrev dt (t : Array Nat) (lim s : Nat) (pc pos handed : Nat) (o : Bool) (frames : List Sre.Frame) (weight : Nat) (answer : Option Bool) (seen : Seen) : M :=
  { code := dotCode, text := t, lim := lim, start := s, lastStart := lim, mustAdvance := false, pc := pc, pos := pos, handed := handed, outermost := o, marks := #[], frames := frames, weight := weight, answer := answer, seen := seen }
noncomputable abbrev dS (t : Array Nat) (lim s : Nat) (o : Bool) (seen : Seen) : M := dt t lim s 5 s s o [frD s o] 1 none seen
noncomputable def bol (t : Array Nat) (s : Nat) : Bool := s == 0 || t.getD (s - 1) 0 == 10
theorem at_yes {t : Array Nat} {lim s : Nat} {o : Bool} {seen : Seen} (h : bol t s = true) : (dS t lim s o seen).step = dt t lim s 7 s s o [frD s o] 1 none ((seen.add 6).add 44) := by
  show (if (s == 0 || t.getD (s - 1) 0 == 10) = true then { dt t lim s 5 s s o [frD s o] 1 none ((seen.add 6).add 44) with pc := 7 } else M.say (dt t lim s 5 s s o [frD s o] 1 none ((seen.add 6).add 44)) false) = _
  have h' : (s == 0 || t.getD (s - 1) 0 == 10) = true := h
  rw [if_pos h']
theorem at_no {t : Array Nat} {lim s : Nat} {o : Bool} {seen : Seen} (h : bol t s = false) : (dS t lim s o seen).step = dt t lim s 5 s s o [frD s o] 1 (some false) ((seen.add 6).add 44) := by
  show (if (s == 0 || t.getD (s - 1) 0 == 10) = true then { dt t lim s 5 s s o [frD s o] 1 none ((seen.add 6).add 44) with pc := 7 } else M.say (dt t lim s 5 s s o [frD s o] 1 none ((seen.add 6).add 44)) false) = _
  have h' : (s == 0 || t.getD (s - 1) 0 == 10) = false := h
  rw [if_neg (by rw [h']; exact Bool.false_ne_true)]; rfl
theorem dlit {t : Array Nat} {lim s : Nat} {o : Bool} {seen : Seen} : (dt t lim s 7 s s o [frD s o] 1 none seen).step =
    (if s ≥ lim then M.say (dt t lim s 7 s s o [frD s o] 1 none (seen.add 16)) false else match (Except.ok (t.getD s 0 == 46, seen.add 16) : Except String (Bool × Seen)) with
      | .error why => M.stick (dt t lim s 7 s s o [frD s o] 1 none (seen.add 16)) why
      | .ok (false, seen') => M.say { dt t lim s 7 s s o [frD s o] 1 none (seen.add 16) with seen := seen' } false
      | .ok (true, seen') => { dt t lim s 7 s s o [frD s o] 1 none (seen.add 16) with seen := seen', pc := 9, pos := s + 1 }) := rfl
theorem dlit_yes {t : Array Nat} {lim s : Nat} {o : Bool} {seen : Seen} (h : s < lim) (hc : t.getD s 0 = 46) : (dt t lim s 7 s s o [frD s o] 1 none seen).step = dt t lim s 9 (s + 1) s o [frD s o] 1 none (seen.add 16) := by
  rw [dlit, if_neg (by (first | lia | omega)), hc, beq_self_eq_true]
theorem dlit_no {t : Array Nat} {lim s : Nat} {o : Bool} {seen : Seen} (h : s ≥ lim ∨ t.getD s 0 ≠ 46) : (dt t lim s 7 s s o [frD s o] 1 none seen).step = dt t lim s 7 s s o [frD s o] 1 (some false) (seen.add 16) := by
  rw [dlit]
  by_cases hp : s ≥ lim
  · rw [if_pos hp]; rfl
  · rw [if_neg hp, beq_eq_false_iff_ne.mpr (h.resolve_left hp)]; rfl
theorem d_next {t : Array Nat} {lim s pc : Nat} {o : Bool} {seen : Seen} (h : s < lim) : (dt t lim s pc s s o [frD s o] 1 (some false) seen).step = dS t lim (s + 1) false seen := by
  show (if s < lim then _ else _) = _
  rw [if_pos h]; rfl
theorem d_last {t : Array Nat} {lim s pc : Nat} {o : Bool} {seen : Seen} (h : ¬ s < lim) : (dt t lim s pc s s o [frD s o] 1 (some false) seen).step = dt t lim s 5 s s o [] 0 (some false) seen := by
  show (if s < lim then _ else _) = _
  rw [if_neg h]; rfl
noncomputable def isHit (t : Array Nat) (lim i : Nat) : Bool := bol t i && (decide (i < lim) && t.getD i 0 == 46)
theorem dot_skip {t : Array Nat} {lim s : Nat} {o : Bool} {seen : Seen} (hh : isHit t lim s = false) : ∃ seen' pc k, k ≤ 2 ∧ ∀ n oc b e, Ends (dt t lim s pc s s o [frD s o] 1 (some false) seen') n oc b e → Ends (dS t lim s o seen) (n + k) oc b e := by
  cases hb : bol t s with
  | false => exact ⟨_, _, 1, by decide, fun n oc b e h => Ends.step rfl (at_no hb) h⟩
  | true =>
    have hc : s ≥ lim ∨ t.getD s 0 ≠ 46 := by
      unfold isHit at hh
      rw [hb, Bool.true_and] at hh
      by_cases q : s < lim
      · right
        intro q'
        simp [q, q'] at hh
      · left; (first | lia | omega)
    exact ⟨_, _, 2, by decide, fun n oc b e h => Ends.step rfl (at_yes hb) (Ends.step rfl (dlit_no hc) h)⟩
theorem dot_hit {t : Array Nat} {lim s : Nat} {o : Bool} {seen : Seen} (hh : isHit t lim s = true) : Ends (dS t lim s o seen) 5 .matched s (s + 1) := by
  unfold isHit at hh
  simp only [Bool.and_eq_true, decide_eq_true_eq, beq_iff_eq] at hh
  obtain ⟨hb, hl, hc⟩ := hh
  refine Ends.step rfl (at_yes hb) (Ends.step rfl (dlit_yes hl hc) ?_)
  cases o with
  | true => exact Ends.step rfl (m' := dt t lim s 9 (s + 1) (s + 1) true [frD s true] 1 (some true) ((((seen.add 6).add 44).add 16).add 1)) rfl (Ends.step rfl (m' := dt t lim s 5 s (s + 1) true [] 0 (some true) ((((seen.add 6).add 44).add 16).add 1)) rfl (Ends.step rfl rfl (Ends.zero rfl rfl rfl)))
  | false => exact Ends.step rfl (m' := dt t lim s 9 (s + 1) (s + 1) false [frD s false] 1 (some true) ((((seen.add 6).add 44).add 16).add 1)) rfl (Ends.step rfl (m' := dt t lim s 5 s (s + 1) false [] 0 (some true) ((((seen.add 6).add 44).add 16).add 1)) rfl (Ends.step rfl rfl (Ends.zero rfl rfl rfl)))
theorem dot_from {t : Array Nat} {lim : Nat} : ∀ (d s : Nat) (o : Bool) (seen : Seen), s + d < lim → (∀ i, s ≤ i → i < s + d → isHit t lim i = false) → isHit t lim (s + d) = true → Ends (dS t lim s o seen) (3 * d + 5) .matched (s + d) (s + d + 1)
  | 0, s, o, seen, _, _, hh => dot_hit hh
  | d + 1, s, o, seen, hl, hb, hh => by
    obtain ⟨seen', pc, k, hk, f⟩ := dot_skip (o := o) (seen := seen) (hb s (Nat.le_refl _) (by (first | lia | omega)))
    have ih := dot_from d (s + 1) false seen' (by (first | lia | omega)) (fun i h1 h2 => hb i (by (first | lia | omega)) (by (first | lia | omega))) (by rw [show s + 1 + d = s + (d + 1) by (first | lia | omega)]; exact hh)
    rw [show s + (d + 1) = s + 1 + d by (first | lia | omega)]
    exact (f _ _ _ _ (Ends.step rfl (d_next (by (first | lia | omega))) ih)).more (by (first | lia | omega))
theorem dot_none {t : Array Nat} {lim : Nat} : ∀ (d s : Nat) (o : Bool) (seen : Seen), s + d = lim → (∀ i, s ≤ i → i ≤ lim → isHit t lim i = false) → ∃ b e, Ends (dS t lim s o seen) (3 * d + 5) .failed b e
  | 0, s, o, seen, hl, hb => by
    obtain ⟨seen', pc, k, hk, f⟩ := dot_skip (o := o) (seen := seen) (hb s (Nat.le_refl _) (by (first | lia | omega)))
    exact ⟨_, _, (f _ _ _ _ (Ends.step rfl (d_last (by (first | lia | omega))) (Ends.step rfl rfl (Ends.zero rfl rfl rfl)))).more (by (first | lia | omega))⟩
  | d + 1, s, o, seen, hl, hb => by
    obtain ⟨seen', pc, k, hk, f⟩ := dot_skip (o := o) (seen := seen) (hb s (Nat.le_refl _) (by (first | lia | omega)))
    obtain ⟨b, e, ih⟩ := dot_none d (s + 1) false seen' (by (first | lia | omega)) (fun i h1 h2 => hb i (by (first | lia | omega)) h2)
    exact ⟨b, e, (f _ _ _ _ (Ends.step rfl (d_next (by (first | lia | omega))) ih)).more (by (first | lia | omega))⟩
theorem dot_search (t : Array Nat) (p : Nat) (hp : p < t.size) : forSearch dotCode t 0 p t.size false = dS t t.size p true (Seen.add {} 14) := by
  show (if (decide (p > t.size) || decide (t.size - p < 1)) = true then _ else _) = _
  rw [if_neg (by simp; (first | lia | omega))]
  rfl
theorem dot_found {t : Array Nat} {p j : Nat} (hp : p ≤ j) (hj : j < t.size) (hb : ∀ i, p ≤ i → i < j → isHit t t.size i = false) (hh : isHit t t.size j = true) :
    Ends (forSearch dotCode t 0 p t.size false) (3 * t.size + 5) .matched j (j + 1) := by
  rw [dot_search t p (by (first | lia | omega))]
  have h := dot_from (t := t) (lim := t.size) (j - p) p true (Seen.add {} 14) (by (first | lia | omega)) (fun i h1 h2 => hb i h1 (by (first | lia | omega))) (by rw [show p + (j - p) = j by (first | lia | omega)]; exact hh)
  rw [show p + (j - p) = j by (first | lia | omega)] at h
  exact h.more (by (first | lia | omega))
theorem dot_nothing {t : Array Nat} {p : Nat} (hp : p ≤ t.size) (hb : ∀ i, p ≤ i → i < t.size → isHit t t.size i = false) :
    ∃ b e, Ends (forSearch dotCode t 0 p t.size false) (3 * t.size + 5) .failed b e := by
  by_cases h : p < t.size
  · rw [dot_search t p h]
    obtain ⟨b, e, r⟩ := dot_none (t := t) (lim := t.size) (t.size - p) p true (Seen.add {} 14) (by (first | lia | omega)) (fun i h1 h2 => by
      by_cases q : i < t.size
      · exact hb i h1 q
      · simp [isHit, q])
    exact ⟨b, e, r.more (by (first | lia | omega))⟩
  · have e : forSearch dotCode t 0 p t.size false = M.say { code := dotCode, text := t, lim := t.size, start := p, mustAdvance := false, pc := 5, pos := p, handed := p, marks := #[], seen := Seen.add {} 14 } false := by
      show (if (decide (p > t.size) || decide (t.size - p < 1)) = true then _ else _) = _
      rw [if_pos (by simp; (first | lia | omega))]
      rfl
    rw [e]
    exact ⟨_, _, (Ends.step rfl rfl (Ends.zero rfl rfl rfl)).more (by (first | lia | omega))⟩
end Mine
end
section
open PySem PySem.W PyProof.Rows PySem.Builtin PySem.Builtin.Re
namespace Mine
theorem fresh_S2 : True := by
  k_with_none
  w_top off
  trivial
section
variable {M : Model} {A : Around} {E : Value → Shared → Prop} {s : Shared}
theorem drive_of : ∀ (turns n : Nat) (m : Sre.M) (o : Sre.Outcome) (Q : Sre.M → Shared → Prop), (m.runFor n).outcome = some o → n ≤ 4 * turns → 0 < turns → Q (m.runFor n) s → wpAny M A (reDrive turns m) Q E s
  | 0, _, _, _, _, _, _, h0, _ => by (first | lia | omega)
  | turns + 1, n, m, o, Q, ho, hn, _, hQ => by
    show wpAny M A (if (m.runFor 4).outcome.isSome = true then pure (m.runFor 4) else do rule "sre.turn"; reDrive turns (m.runFor 4)) Q E s
    have key : ∀ k, n ≤ k → m.runFor k = m.runFor n := fun k hk => by
      obtain ⟨d, rfl⟩ := Nat.le.dest hk
      rw [run_add]; exact run_done ho
    by_cases h4 : (m.runFor 4).outcome.isSome = true
    · rw [if_pos h4]
      obtain ⟨o', ho'⟩ := Option.isSome_iff_exists.mp h4
      have e : m.runFor 4 = m.runFor n := by
        by_cases hk : n ≤ 4
        · exact key 4 hk
        · obtain ⟨d, rfl⟩ := Nat.le.dest (Nat.le_of_lt (Nat.lt_of_not_le hk))
          rw [run_add]; exact (run_done ho').symm
      rw [e]; exact wpAny_pure hQ
    · rw [if_neg h4]
      have hn4 : ¬ n ≤ 4 := fun hk => h4 (by rw [key 4 hk, ho]; rfl)
      obtain ⟨d, rfl⟩ := Nat.le.dest (Nat.le_of_lt (Nat.lt_of_not_le hn4))
      refine wpAny_bind (wpAny_rule ?_)
      rw [run_add] at ho hQ
      exact drive_of turns d (m.runFor 4) o Q ho (by (first | lia | omega)) (by (first | lia | omega)) hQ
theorem forIn_rules {l : List Nat} {c : Nat → Bool} {tag : Nat → String} {Q : PUnit → Shared → Prop} (h : Q ⟨⟩ s) :
    wpAny M A (forIn l PUnit.unit fun i (_ : PUnit) => if c i = true then (do rule (tag i); pure (ForInStep.yield PUnit.unit)) else (pure (ForInStep.yield PUnit.unit) : Sem (ForInStep PUnit))) Q E s := by
  induction l with
  | nil => exact wpAny_pure h
  | cons i r ih =>
    rw [List.forIn_cons]
    refine wpAny_bind ?_
    split
    · exact wpAny_bind (wpAny_rule (wpAny_pure ih))
    · exact wpAny_pure ih
theorem runToEnd_of {m : Sre.M} {n : Nat} {o : Sre.Outcome} {b e : Nat} {Q : Option Sre.M → Shared → Prop} (h : Ends m n o b e) (hn : n ≤ 2 ^ 60)
    (hm : o = .matched → ∀ m', m'.start = b → m'.handed = e → Q (some m') s) (hf : o = .failed → Q none s) (hs : ∀ why, o ≠ .stuck why) : wpAny M A (reRunToEnd m) Q E s := by
  obtain ⟨m', h1, h2, h3, h4⟩ := h
  unfold reRunToEnd
  subst h1
  refine wpAny_bind (drive_of (2 ^ 64) n m o _ h2 (Nat.le_trans hn (by decide)) (by decide) ?_)
  generalize m.runFor n = m' at *
  refine wpAny_bind (forIn_rules ?_)
  rw [h2]
  cases o with
  | matched => exact wpAny_pure (hm rfl _ h3 h4)
  | failed => exact wpAny_pure (hf rfl)
  | stuck w => exact absurd rfl (hs w)
end
/-- a pattern as it lies in the heap -/
structure PatAt (h : Heap) (pa : Addr) (code : Array Nat) : Prop where
  ex : ∃ (op oc : Obj) (fs items : Array Value) (ca : Addr) (n : Nat), h.get? pa = some op ∧ op.cls = .type "re.Pattern" ∧ op.dict = none ∧ op.data = .fields fs ∧ fs.getD 5 .none = .ref ca ∧ reRawNat (fs.getD 6 .none) = 0 ∧ reRawNat (fs.getD 2 .none) = 0 ∧
    h.get? ca = some oc ∧ oc.data = .seq items n ∧ (items.map reRawOf).map (·.toNat) = code
theorem PatAt.keeps {h h' : Heap} {pa : Addr} {code : Array Nat} (P : PatAt h pa code) (hk : ∀ b o, h.get? b = some o → h'.get? b = some o) : PatAt h' pa code := by
  obtain ⟨op, oc, fs, items, ca, n, a, b, c, d, e, f, g, i, j, k⟩ := P
  exact ⟨op, oc, fs, items, ca, n, hk _ _ a, b, c, d, e, f, g, hk _ _ i, j, k⟩
section
variable {M : Model} {A : Around} {E : Value → Shared → Prop} {s : Shared}
theorem wholeTarget_of {pa : Addr} {code : Array Nat} {x : Str} {t : Tok} {Q : ReTarget → Shared → Prop} (P : PatAt s.heap pa code)
    (h : Q { pattern := .ref pa, string := .str x t, code := code, text := x.cps, kind := 0, groups := 0, pos := 0, lim := x.cps.size } s) : wpAny M A (reWholeTarget (.ref pa) (.str x t)) Q E s := by
  obtain ⟨op, oc, fs, items, ca, n, a, b, c, d, e, f, g, i, j, k⟩ := P
  unfold reWholeTarget
  refine wpAny_bind (wpAny_fieldsOf a d ?_)
  refine wpAny_bind (m := reTextOf (.str x t)) ?_
  refine wpAny_bind (m := asStr? (.str x t)) (wpAny_pure ?_)
  refine wpAny_pure ?_
  dsimp only
  rw [f, g, e]
  refine wpAny_bind (m := reNoCollectionInside (.str x t) 0) (wpAny_pure ?_)
  refine wpAny_bind (m := reRawItems (.ref ca)) ?_
  refine wpAny_bind (wpAny_seqItems i j ?_)
  refine wpAny_pure (wpAny_pure ?_)
  dsimp only [Option.getD_some]
  rw [k]; exact h
end
noncomputable def pcs (find : Nat → Option (Nat × Nat)) (x repl : Str) : Nat → Nat → List Str
  | 0, _ => []
  | d + 1, p => match find p with
    | some (b, e) => (if p < b then [⟨x.cps.extract p b⟩] else []) ++ repl :: pcs find x repl d e
    | none => if p < x.cps.size then [⟨x.cps.extract p x.cps.size⟩] else []
structure FindOk (code t : Array Nat) (find : Nat → Option (Nat × Nat)) : Prop where
  yes : ∀ p b e, p ≤ t.size → find p = some (b, e) → p ≤ b ∧ b < e ∧ e ≤ t.size ∧ Ends (Sre.forSearch code t 0 p t.size false) (2 ^ 60) .matched b e
  no : ∀ p, p ≤ t.size → find p = none → ∃ b e, Ends (Sre.forSearch code t 0 p t.size false) (2 ^ 60) .failed b e
section
variable {prog : Program} {w : World} {A : Around} {E : Value → Shared → Prop} {s : Shared} {h₀ : Heap} {L D : Addr} {m : Str → Option Value} {news : List (Addr × Obj)}
theorem slice_of {x : Str} {b e : Nat} {Q : Value → Shared → Prop} (hx : x.cps.size ≤ 1000) (h : ∀ tk tk', Q (.str ⟨x.cps.extract b e⟩ tk) { s with toks := tk' }) : wpAny (model prog w) A (reSlice x.cps 0 b e) Q E s := by
  show wpAny (model prog w) A (mkStr ⟨x.cps.extract b e⟩) Q E s
  unfold mkStr
  have : ¬ ((⟨x.cps.extract b e⟩ : Str).length > sizeLine) := by
    show ¬ ((x.cps.extract b e).size > sizeLine)
    rw [Array.size_extract, sizeLine_eq]
    (first | lia | omega)
  rw [if_neg this]
  exact wpAny_bind (X.x_fresh (wpAny_pure (wpAny_pure (h _ _))))
theorem push_of {vs : List Value} {k : Nat} {v : Value} {Q : Unit → Shared → Prop} (F : Fr h₀ L s.heap m) (N : News h₀ L s.heap ((D, listOf vs.toArray k) :: news)) (hD : ∀ q ∈ news, q.1 ≠ D) (hl : vs.length ≤ 10000)
    (h : ∀ h', Fr h₀ L h' m → News h₀ L h' ((D, listOf (vs ++ [v]).toArray (k + 1)) :: news) → Q () { s with heap := h' }) : wpAny (model prog w) A (updateSeq D (·.push v)) Q E s := by
  refine wpAny_updateSeq (News.get N (List.mem_cons_self ..)) rfl ?_ (by simp [sizeLine_eq]; (first | lia | omega)) (by simp [sizeLine_eq]; (first | lia | omega))
  obtain ⟨F', N'⟩ := news_upd (pre := []) (f := Obj.mapSeq (·.push v)) (o' := listOf (vs ++ [v]).toArray (k + 1)) F N (fun _ h => by cases h) hD (by simp [W.listOf, Obj.mapSeq]) rfl
  exact h _ F' N'
theorem entry_loop : entryFor table "re.Pattern.sub.loop" = some Builtin.«re.Pattern.sub.loop» := entryFor_of_tree (by kernel_rfl)
theorem plain_loop : plainId "re.Pattern.sub.loop" = true := by decide +kernel
noncomputable abbrev loopArgs (pa : Addr) (x : Str) (t : Tok) (repl : Str) (tr : Tok) (n : Int) (p : Nat) (D : Addr) : Args :=
  ⟨[.ref pa, .str x t, .str repl tr, rawInt 0, rawInt 0, rawInt n, rawInt (p : Int), rawInt (p : Int), .bool false, .ref D, .bool false], []⟩
theorem sub_loop {pa : Addr} {code : Array Nat} {x repl : Str} {t tr : Tok} {find : Nat → Option (Nat × Nat)} {R : Result → Shared → Prop} (P : PatAt h₀ pa code) (hf : FindOk code x.cps find) (hx : x.cps.size ≤ 500) (hr : repl.length ≤ 2) (hD : ∀ q ∈ news, q.1 ≠ D) :
    ∀ (d p : Nat) (n : Int) (xs : List Str) (vs : List Value) (k : Nat) (s : Shared), x.cps.size + 1 - p ≤ d → p ≤ x.cps.size → Fr h₀ L s.heap m → News h₀ L s.heap ((D, listOf vs.toArray k) :: news) → StrsAre vs xs → (xs.map (·.length)).sum ≤ 3 * p → xs.length ≤ 2 * p →
      (∀ t' h' tk', Fr h₀ L h' m → News h₀ L h' news → R (.ok (.ret (.str (Txt.join Str.empty (xs ++ pcs find x repl d p)) t'))) { s with heap := h', toks := tk' }) →
      codeAny (model prog w) A (.builtin "re.Pattern.sub.loop" (loopArgs pa x t repl tr n p D)) R s
  | 0, p, n, xs, vs, k, s, hd, hp, F, N, hS, h1, h2, hR => by (first | lia | omega)
  | d + 1, p, n, xs, vs, k, s, hd, hp, F, N, hS, h1, h2, hR => by
    have hlv : vs.length = xs.length := hS.len_eq
    refine codeAny_builtin entry_loop ?_
    rw [Around.under_plainId plain_loop]
    unfold Builtin.«re.Pattern.sub.loop»
    refine wpAny_bind (wholeTarget_of (P.keeps F.keep) ?_)
    refine wpAny_bind (m := reLiteralCannotBeTurned (.str repl tr)) (wpAny_pure ?_)
    refine wpAny_bind (m := reNextFound _ p false) ?_
    cases hfd : find p with
    | some be =>
      obtain ⟨b, e⟩ := be
      obtain ⟨hpb, hbe, he, hE⟩ := hf.yes p b e hp hfd
      refine runToEnd_of hE (Nat.le_refl _) (fun _ m' hb he' => ?_) (fun q => by cases q) (fun why q => by cases q)
      subst hb he'
      have hpc : pcs find x repl (d + 1) p = (if p < m'.start then [⟨x.cps.extract p m'.start⟩] else []) ++ repl :: pcs find x repl d m'.handed := by
        show (match find p with | some (b, e) => _ | none => _) = _
        rw [hfd]
      have fin : ∀ (ys : List Str) (us : List Value) (k' : Nat) (s' : Shared), (∃ h tk, s' = { s with heap := h, toks := tk }) → Fr h₀ L s'.heap m → News h₀ L s'.heap ((D, W.listOf us.toArray k') :: news) → StrsAre us ys → ys = xs ++ (if p < m'.start then [⟨x.cps.extract p m'.start⟩] else []) →
          wpAny (model prog w) A.in1 (do updateSeq D (·.push (.str repl tr)); again (.builtin "re.Pattern.sub.loop" ⟨[.ref pa, .str x t, .str repl tr, rawInt 0, rawInt 0, rawInt (n + 1), rawInt m'.handed, rawInt m'.handed, .bool (m'.handed == m'.start), .ref D, .bool false], []⟩))
            (fun fin s' => match fin with | .done f => R (.ok f) s' | .again c' => c'.quiet = true ∧ codeAny (model prog w) A c' R s') (fun e s' => R (.error e) s') s' := by
        rintro ys us k' s' ⟨hh, tk, rfl⟩ F' N' hS' rfl
        have hl : us.length ≤ 10000 := by
          rw [hS'.len_eq, List.length_append]
          split <;> simp <;> (first | lia | omega)
        refine wpAny_bind (push_of F' N' hD hl fun h' F₂ N₂ => wpAny_pure ⟨plainId_quiet plain_loop _, ?_⟩)
        have hne : (m'.handed == m'.start) = false := beq_eq_false_iff_ne.mpr (by (first | lia | omega))
        rw [hne]
        refine sub_loop P hf hx hr hD d m'.handed (n + 1) _ _ _ _ (by (first | lia | omega)) he F₂ N₂ (hS'.append' (.cons _ _ .nil)) ?_ ?_ ?_
        · rw [List.map_append, List.sum_append, List.map_append, List.sum_append]
          have e1 : (⟨x.cps.extract p m'.start⟩ : Str).length = m'.start - p := by
            show (x.cps.extract p m'.start).size = _
            rw [Array.size_extract]; (first | lia | omega)
          split
          · simp only [List.map_cons, List.map_nil, List.sum_cons, List.sum_nil, e1]; (first | lia | omega)
          · simp only [List.map_cons, List.map_nil, List.sum_cons, List.sum_nil]; (first | lia | omega)
        · rw [List.length_append, List.length_append]
          split <;> simp <;> (first | lia | omega)
        · intro t' h'' tk'' F₃ N₃
          have := hR t' h'' tk'' F₃ N₃
          rw [hpc] at this
          simpa [List.append_assoc] using this
      show wpAny (model prog w) A.in1 (if p < m'.start then (do
            let v ← reSlice x.cps 0 p m'.start
            updateSeq D (·.push v)
            do updateSeq D (·.push (.str repl tr)); again (.builtin "re.Pattern.sub.loop" ⟨[.ref pa, .str x t, .str repl tr, rawInt 0, rawInt 0, rawInt (n + 1), rawInt m'.handed, rawInt m'.handed, .bool (m'.handed == m'.start), .ref D, .bool false], []⟩))
          else (do updateSeq D (·.push (.str repl tr)); again (.builtin "re.Pattern.sub.loop" ⟨[.ref pa, .str x t, .str repl tr, rawInt 0, rawInt 0, rawInt (n + 1), rawInt m'.handed, rawInt m'.handed, .bool (m'.handed == m'.start), .ref D, .bool false], []⟩))) _ _ _
      by_cases hpm : p < m'.start
      · rw [if_pos hpm]
        refine wpAny_bind (slice_of (by (first | lia | omega)) fun tk tk' => ?_)
        refine wpAny_bind (push_of F N hD (by (first | lia | omega)) fun h' F₂ N₂ => ?_)
        exact fin _ _ _ _ ⟨_, _, rfl⟩ F₂ N₂ (hS.append' (.cons _ _ .nil)) (by rw [if_pos hpm])
      · rw [if_neg hpm]
        exact fin _ _ _ _ ⟨_, _, rfl⟩ F N hS (by rw [if_neg hpm, List.append_nil])
    | none =>
      obtain ⟨b, e, hE⟩ := hf.no p hp hfd
      refine runToEnd_of hE (Nat.le_refl _) (fun q => by cases q) (fun _ => ?_) (fun why q => by cases q)
      have hpc : pcs find x repl (d + 1) p = if p < x.cps.size then [⟨x.cps.extract p x.cps.size⟩] else [] := by
        show (match find p with | some (b, e) => _ | none => _) = _
        rw [hfd]
      have fin : ∀ (ys : List Str) (us : List Value) (k' : Nat) (s' : Shared), (∃ h tk, s' = { s with heap := h, toks := tk }) → Fr h₀ L s'.heap m → News h₀ L s'.heap ((D, W.listOf us.toArray k') :: news) → StrsAre us ys → ys = xs ++ pcs find x repl (d + 1) p →
          wpAny (model prog w) A.in1 (do
              let joiner ← reSlice x.cps 0 0 0
              let text ← if ((← seqItems? (.ref D)).getD #[]).isEmpty then pure joiner else call (.builtin "str.join") [joiner, .ref D]
              ret text)
            (fun fin s' => match fin with | .done f => R (.ok f) s' | .again c' => c'.quiet = true ∧ codeAny (model prog w) A c' R s') (fun e s' => R (.error e) s') s' := by
        rintro ys us k' s' ⟨hh, tk, rfl⟩ F' N' hS' hy
        refine wpAny_bind (slice_of (by (first | lia | omega)) fun tk tk' => ?_)
        have he : (⟨x.cps.extract 0 0⟩ : Str) = Str.empty := by
          show Str.mk (x.cps.extract 0 0) = Str.mk #[]
          rw [show x.cps.extract 0 0 = #[] by simp]
        rw [he]
        refine wpAny_bind (wpAny_seqItems (News.get N' (List.mem_cons_self ..)) rfl ?_)
        have N₀ : ∀ {h : Heap}, News h₀ L h ((D, W.listOf us.toArray k') :: news) → News h₀ L h news := fun N p hp => N p (List.mem_cons_of_mem _ hp)
        dsimp only [Option.getD_some]
        by_cases hu : us.toArray.isEmpty = true
        · rw [if_pos hu]
          have hus : us = [] := by simpa using hu
          subst hus
          have hys : ys = [] := by
            have := hS'.len_eq
            simpa using this.symm
          refine wpAny_bind (wpAny_pure (wpAny_pure ?_))
          have := hR tk hh tk' F' (N₀ N')
          rw [← hy, hys] at this
          exact this
        · rw [if_neg hu]
          refine wpAny_bind (join_list (ys := ys) (News.isList N' (List.mem_cons_self ..)) (by simpa using hS') ?_ fun t' k2 => ?_)
          · have e1 : (⟨x.cps.extract p x.cps.size⟩ : Str).length = x.cps.size - p := by
              show (x.cps.extract p x.cps.size).size = _
              rw [Array.size_extract]; (first | lia | omega)
            have e0 : Str.empty.length = 0 := rfl
            rw [e0, Nat.mul_zero, hy, hpc, List.map_append, List.sum_append]
            split
            · simp only [List.map_cons, List.map_nil, List.sum_cons, List.sum_nil, e1]; (first | lia | omega)
            · simp only [List.map_nil, List.sum_nil]; (first | lia | omega)
          · refine wpAny_pure ?_
            have := hR t' hh k2 F' (N₀ N')
            rw [← hy] at this
            exact this
      show wpAny (model prog w) A.in1 (if p < x.cps.size then (do
            let v ← reSlice x.cps 0 p x.cps.size
            updateSeq D (·.push v)
            let joiner ← reSlice x.cps 0 0 0
            let text ← if ((← seqItems? (.ref D)).getD #[]).isEmpty then pure joiner else call (.builtin "str.join") [joiner, .ref D]
            ret text)
          else (do
            let joiner ← reSlice x.cps 0 0 0
            let text ← if ((← seqItems? (.ref D)).getD #[]).isEmpty then pure joiner else call (.builtin "str.join") [joiner, .ref D]
            ret text)) _ _ _
      by_cases hpm : p < x.cps.size
      · rw [if_pos hpm]
        refine wpAny_bind (slice_of (by (first | lia | omega)) fun tk tk' => ?_)
        refine wpAny_bind (push_of F N hD (by (first | lia | omega)) fun h' F₂ N₂ => ?_)
        exact fin _ _ _ _ ⟨_, _, rfl⟩ F₂ N₂ (hS.append' (.cons _ _ .nil)) (by rw [hpc, if_pos hpm])
      · rw [if_neg hpm]
        exact fin _ _ _ _ ⟨_, _, rfl⟩ F N hS (by rw [hpc, if_neg hpm, List.append_nil])
end
theorem slot_sub : Slot "re.Pattern" "sub" "re.Pattern.sub" :=
  .of (owner := "re.Pattern") (n := "sub") (by rw [typeLookup_type, builtinLookup_eq_fast]; kernel_rfl) (by decide +kernel) (by decide +kernel) (by decide +kernel)
    (by first | exact .inl (by decide +kernel) | exact .inr (by decide +kernel)) (by rw [isSubtype_type]; kernel_rfl)
theorem entry_sub : entryFor table "re.Pattern.sub" = some Builtin.«re.Pattern.sub» := entryFor_of_tree (by kernel_rfl)
theorem args_sub (a b c : Value) : argsOk "re.Pattern.sub" ⟨[a, b, c], []⟩ := by unfold argsOk; kernel_rfl
theorem type_sub : typeOf (.builtin "re.Pattern.sub") = pure (.type "method_descriptor") := by show builtinType _ = _; rw [builtinType_eq_fast]; kernel_rfl
theorem plainAttrs_pat : PlainAttrs "re.Pattern" where
  ga := ⟨"object.__getattribute__", by rw [typeLookup_type, builtinLookup_eq_fast]; kernel_rfl, by decide +kernel⟩
  noGetattr := by rw [typeLookup_type, builtinLookup_eq_fast]; kernel_rfl
theorem str_nocall : typeLookup (.type "str") "__call__" = pure none := by rw [typeLookup_type, builtinLookup_eq_fast]; kernel_rfl
section
variable {prog : Program} {w : World} {A : Around} {E : Value → Shared → Prop} {s : Shared} {h₀ : Heap} {L : Addr} {m : Str → Option Value} {news : List (Addr × Obj)}
theorem PatAt.typeIs {h : Heap} {pa : Addr} {code : Array Nat} (P : PatAt h pa code) {s : Shared} (e : s.heap = h) : s.TypeIs (.ref pa) "re.Pattern" := by
  subst e
  obtain ⟨op, oc, fs, items, ca, n, a, b, c, d, e, f, g, i, j, k⟩ := P
  exact ⟨op, a, b⟩
theorem pat_method {pa : Addr} {code : Array Nat} {pl : Sem Bool} {Q : Value × List Value → Shared → Prop} (F : Fr h₀ L s.heap m) (P : PatAt h₀ pa code) (h : Q (.builtin "re.Pattern.sub", [.ref pa]) s) :
    wpAny (model prog w) A (getMethod (.ref pa) (Str.ofString "sub") pl) Q E s := by
  have P' := P.keeps F.keep
  refine getMethod_builtin (P'.typeIs rfl) plainAttrs_pat slot_sub type_sub (fun a e => ?_) h
  cases e
  obtain ⟨op, oc, fs, items, ca, n, a, b, c, d, e, f, g, i, j, k⟩ := P'
  exact ⟨op, a, c⟩
theorem sub_call {pa : Addr} {code : Array Nat} {x repl : Str} {t tr : Tok} {find : Nat → Option (Nat × Nat)} {Q : Value → Shared → Prop} (F : Fr h₀ L s.heap m) (N : News h₀ L s.heap news) (P : PatAt h₀ pa code) (hf : FindOk code x.cps find) (hx : x.cps.size ≤ 500) (hr : repl.length ≤ 2) (hc : repl.cps.contains 92 = false)
    (h : ∀ t' h' tk', Fr h₀ L h' m → News h₀ L h' news → Q (.str (Txt.join Str.empty (pcs find x repl (x.cps.size + 1) 0)) t') { s with heap := h', toks := tk' }) :
    wpAny (model prog w) A (call (.builtin "re.Pattern.sub") [.ref pa, .str repl tr, .str x t]) Q E s := by
  have P' := P.keeps F.keep
  refine wpAny_call (codeAny_call_builtin slot_sub.plain entry_sub (slot_sub.check _ _ _ _ _ _ _ _ (P'.typeIs rfl) (args_sub _ _ _) ?_))
  show wpAny _ _ (reSubstitute "re.Pattern.sub" "sub" false ⟨[.ref pa, .str repl tr, .str x t], []⟩) _ _ _
  unfold reSubstitute
  refine wpAny_bind (m := reNamed "re.Pattern.sub" "sub" ["repl", "string", "count"] 2 [.str repl tr, .str x t] []) (wpAny_of_eq (a := [some (.str repl tr), some (.str x t), none]) rfl ?_)
  refine wpAny_bind (m := (pure 0 : Sem Int)) (wpAny_pure ?_)
  refine wpAny_bind (wpAny_specialOf (typeIs_str _ _ _) str_nocall ?_)
  refine wpAny_bind (m := asStr? (.str repl tr)) (wpAny_pure ?_)
  refine wpAny_bind (m := (pure (!repl.cps.contains 92) : Sem Bool)) (wpAny_pure ?_)
  rw [hc]
  refine wpAny_bind (m := (pure (Value.str repl tr, 0) : Sem (Value × Int))) (wpAny_pure ?_)
  refine wpAny_bind (wpAny_holding (wholeTarget_of P' ?_))
  refine wpAny_bind (newList_N F N fun h' F' N' => wpAny_pure ⟨plainId_quiet plain_loop _, ?_⟩)
  refine sub_loop (L := L) (D := s.heap.objs.size) (m := m) (news := news) P hf hx hr (fun q hq => Nat.ne_of_lt (Heap.lt_size (N q hq).1)) (x.cps.size + 1) 0 0 [] [] 0 _ (by (first | lia | omega)) (by (first | lia | omega)) F' N' .nil (by simp) (by simp) ?_
  intro t' h'' tk'' F'' N''
  exact h t' h'' tk'' F'' N''
end
end Mine
end
section
open PySem PySem.W PyProof.Rows PySem.Builtin PySem.Builtin.Re
namespace Mine
theorem fresh_S3 : True := by
  k_with_none
  w_top off
  trivial
noncomputable def findFrom (ok : Nat → Bool) : Nat → Nat → Option Nat
  | 0, _ => none
  | n + 1, p => if ok p = true then some p else findFrom ok n (p + 1)
theorem findFrom_some {ok : Nat → Bool} : ∀ {n p j : Nat}, findFrom ok n p = some j → p ≤ j ∧ j < p + n ∧ ok j = true ∧ ∀ i, p ≤ i → i < j → ok i = false
  | 0, _, _, h => by cases h
  | n + 1, p, j, h => by
    unfold findFrom at h
    split at h
    · rename_i hk
      cases h
      exact ⟨Nat.le_refl _, by (first | lia | omega), hk, fun i h1 h2 => by (first | lia | omega)⟩
    · rename_i hk
      obtain ⟨a, b, c, d⟩ := findFrom_some h
      refine ⟨by (first | lia | omega), by (first | lia | omega), c, fun i h1 h2 => ?_⟩
      by_cases e : i = p
      · subst e; simpa using hk
      · exact d i (by (first | lia | omega)) h2
theorem findFrom_none {ok : Nat → Bool} : ∀ {n p : Nat}, findFrom ok n p = none → ∀ i, p ≤ i → i < p + n → ok i = false
  | 0, _, _ => fun i h1 h2 => by (first | lia | omega)
  | n + 1, p, h => by
    unfold findFrom at h
    split at h
    · cases h
    · rename_i hk
      intro i h1 h2
      by_cases e : i = p
      · subst e; simpa using hk
      · exact findFrom_none h i (by (first | lia | omega)) (by (first | lia | omega))
noncomputable def eolFind (t : Array Nat) (p : Nat) : Option (Nat × Nat) := (findFrom (fun i => isEol (t.getD i 0)) (t.size - p) p).map fun j => (j, j + eolLen t j)
noncomputable def dotFind (t : Array Nat) (p : Nat) : Option (Nat × Nat) := (findFrom (fun i => isHit t t.size i) (t.size - p) p).map fun j => (j, j + 1)
theorem eolLen_le {t : Array Nat} {j : Nat} (hj : j < t.size) : 0 < eolLen t j ∧ j + eolLen t j ≤ t.size := by
  unfold eolLen
  by_cases h : t.getD j 0 = 13 ∧ j + 1 < t.size ∧ t.getD (j + 1) 0 = 10
  · rw [if_pos h]; exact ⟨by decide, by (first | lia | omega)⟩
  · rw [if_neg h]; exact ⟨by decide, by (first | lia | omega)⟩
theorem small60 {n : Nat} (h : n ≤ 10000) : n ≤ 2 ^ 60 := Nat.le_trans h (by decide)
theorem eol_ok (t : Array Nat) : FindOk eolCode t (eolFind t) where
  yes := fun p b0 e0 hp h => by
    unfold eolFind at h
    obtain ⟨j, hj, he⟩ := Option.map_eq_some_iff.mp h
    obtain ⟨a, b, c, d⟩ := findFrom_some hj
    have hjl : j < t.size := by (first | lia | omega)
    have h2 := eolLen_le hjl
    have e1 : j = b0 := congrArg Prod.fst he
    have e2 : j + eolLen t j = e0 := congrArg Prod.snd he
    rw [← e1, ← e2]
    exact ⟨a, by (first | lia | omega), h2.2, (eol_found a hjl d c).more (small60 (by decide))⟩
  no := fun p hp h => by
    unfold eolFind at h
    have hn := findFrom_none (Option.map_eq_none_iff.mp h)
    obtain ⟨b, e, r⟩ := eol_nothing hp (fun i h1 h2 => hn i h1 (by (first | lia | omega)))
    exact ⟨b, e, r.more (small60 (by decide))⟩
theorem dot_ok (t : Array Nat) (ht : t.size ≤ 500) : FindOk dotCode t (dotFind t) where
  yes := fun p b0 e0 hp h => by
    unfold dotFind at h
    obtain ⟨j, hj, he⟩ := Option.map_eq_some_iff.mp h
    obtain ⟨a, b, c, d⟩ := findFrom_some hj
    have hjl : j < t.size := by (first | lia | omega)
    have e1 : j = b0 := congrArg Prod.fst he
    have e2 : j + 1 = e0 := congrArg Prod.snd he
    rw [← e1, ← e2]
    exact ⟨a, by (first | lia | omega), by (first | lia | omega), (dot_found a hjl d c).more (small60 (by (first | lia | omega)))⟩
  no := fun p hp h => by
    unfold dotFind at h
    have hn := findFrom_none (Option.map_eq_none_iff.mp h)
    obtain ⟨b, e, r⟩ := dot_nothing hp (fun i h1 h2 => hn i h1 (by (first | lia | omega)))
    exact ⟨b, e, r.more (small60 (by (first | lia | omega)))⟩
/-- the texts as lists of numbers -/
noncomputable def fixL : List Nat → List Nat
  | 13 :: 10 :: r => 13 :: 10 :: fixL r
  | c :: r => if isEol c = true then 13 :: 10 :: fixL r else c :: fixL r
  | [] => []
noncomputable def quoteL : Bool → List Nat → List Nat
  | _, [] => []
  | b, c :: r => if (b && c == 46) = true then 46 :: 46 :: quoteL false r else c :: quoteL (c == 10) r
theorem join_empty : ∀ ys : List Str, (Txt.join Str.empty ys).cps.toList = (ys.map (·.cps.toList)).flatten := by
  have key : ∀ (rest : List Str) (acc : Array Nat), (rest.foldl (fun acc p => acc ++ Str.empty.cps ++ p.cps) acc).toList = acc.toList ++ (rest.map (·.cps.toList)).flatten := by
    intro rest
    induction rest with
    | nil => intro acc; simp
    | cons p r ih =>
      intro acc
      rw [List.foldl_cons, ih]
      have : Str.empty.cps = #[] := rfl
      (first | walk_at "subm" | simp [this])
  intro ys
  cases ys with
  | nil => rfl
  | cons p r =>
    show (r.foldl (fun acc p => acc ++ Str.empty.cps ++ p.cps) p.cps).toList = _
    rw [key]; simp
theorem fixL_cons {c : Nat} {r : List Nat} (h : ¬ (c = 13 ∧ ∃ r', r = 10 :: r')) : fixL (c :: r) = if isEol c = true then 13 :: 10 :: fixL r else c :: fixL r := by
  rw [fixL.eq_def]
  split
  · rename_i r' e
    cases e
    exact absurd ⟨rfl, _, rfl⟩ h
  · rename_i e
    cases e
    rfl
  · rename_i e; cases e
theorem fixL_skip : ∀ (l r : List Nat), (∀ c ∈ l, isEol c = false) → fixL (l ++ r) = l ++ fixL r
  | [], r, _ => rfl
  | c :: l, r, h => by
    have hc := h c (by simp)
    rw [List.cons_append, fixL_cons (fun q => by rw [q.1] at hc; cases hc), hc, fixL_skip l r (fun c hc => h c (by simp [hc]))]
    simp
theorem getD_at {t : Array Nat} {i : Nat} (h : i < t.size) : t.getD i 0 = t.toList[i]'(by simpa using h) := by
  simp [Array.getD, h]
theorem extract_list (t : Array Nat) (p b : Nat) : (t.extract p b).toList = (t.toList.drop p).take (b - p) := by
  simp [Array.toList_extract, List.extract]
theorem drop_split {l : List Nat} {p b : Nat} (h : p ≤ b) : l.drop p = (l.drop p).take (b - p) ++ l.drop b := by
  have := (List.take_append_drop (b - p) (l.drop p)).symm
  rw [List.drop_drop, show p + (b - p) = b by (first | lia | omega)] at this
  exact this
theorem mem_slice {t : Array Nat} {p b c : Nat} (hb : b ≤ t.size) (h : c ∈ (t.toList.drop p).take (b - p)) : ∃ i, p ≤ i ∧ i < b ∧ t.getD i 0 = c := by
  obtain ⟨i, hi, e⟩ := List.getElem_of_mem h
  simp only [List.length_take, List.length_drop, Array.length_toList] at hi
  refine ⟨p + i, by (first | lia | omega), by (first | lia | omega), ?_⟩
  rw [getD_at (by (first | lia | omega))]
  rw [List.getElem_take, List.getElem_drop] at e
  exact e
theorem eol_flat {x : Str} : ∀ (d p : Nat), x.cps.size + 1 - p ≤ d → p ≤ x.cps.size → ((pcs (eolFind x.cps) x ⟨#[13, 10]⟩ d p).map (·.cps.toList)).flatten = fixL (x.cps.toList.drop p)
  | 0, p, hd, hp => by (first | lia | omega)
  | d + 1, p, hd, hp => by
    show (((match eolFind x.cps p with
      | some (b, e) => (if p < b then [⟨x.cps.extract p b⟩] else []) ++ ⟨#[13, 10]⟩ :: pcs (eolFind x.cps) x ⟨#[13, 10]⟩ d e
      | none => if p < x.cps.size then [⟨x.cps.extract p x.cps.size⟩] else [] : List Str)).map (·.cps.toList)).flatten = _
    cases hf : eolFind x.cps p with
    | none =>
      unfold eolFind at hf
      have hn := findFrom_none (Option.map_eq_none_iff.mp hf)
      have e := fixL_skip (x.cps.toList.drop p) [] (fun c hc => by
        obtain ⟨i, h1, h2, h3⟩ := mem_slice (t := x.cps) (p := p) (b := x.cps.size) (Nat.le_refl _) (by rw [List.take_of_length_le (by simp)]; exact hc)
        rw [← h3]; exact hn i h1 (by (first | lia | omega)))
      rw [List.append_nil] at e
      rw [e]
      show (((if p < x.cps.size then [⟨x.cps.extract p x.cps.size⟩] else []) : List Str).map (·.cps.toList)).flatten = _
      by_cases h : p < x.cps.size
      · rw [if_pos h]
        show (x.cps.extract p x.cps.size).toList ++ [] = _
        rw [extract_list, List.take_of_length_le (by simp)]; rfl
      · rw [if_neg h]
        have : x.cps.toList.drop p = [] := List.drop_eq_nil_of_le (by simp; (first | lia | omega))
        rw [this]; rfl
    | some be =>
      obtain ⟨b, e⟩ := be
      have hok := (eol_ok x.cps).yes p b e hp hf
      have ih := eol_flat (x := x) d e (by (first | lia | omega)) hok.2.2.1
      unfold eolFind at hf
      obtain ⟨j, hj, he⟩ := Option.map_eq_some_iff.mp hf
      obtain ⟨a1, a2, a3, a4⟩ := findFrom_some hj
      have e1 : j = b := congrArg Prod.fst he
      have e2 : j + eolLen x.cps j = e := congrArg Prod.snd he
      subst e1
      subst e2
      have hjl : j < x.cps.size := by (first | lia | omega)
      show ((((if p < j then [⟨x.cps.extract p j⟩] else []) ++ ⟨#[13, 10]⟩ :: pcs (eolFind x.cps) x ⟨#[13, 10]⟩ d (j + eolLen x.cps j)) : List Str).map (·.cps.toList)).flatten = _
      rw [List.map_append, List.flatten_append, List.map_cons, List.flatten_cons, ih, drop_split (l := x.cps.toList) a1,
        fixL_skip _ _ (fun c hc => by
          obtain ⟨i, h1, h2, h3⟩ := mem_slice (Nat.le_of_lt hjl) hc
          rw [← h3]; exact a4 i h1 h2)]
      congr 1
      · by_cases h : p < j
        · rw [if_pos h]
          show (x.cps.extract p j).toList ++ [] = _
          rw [extract_list, List.append_nil]
        · rw [if_neg h, show j - p = 0 by (first | lia | omega)]; rfl
      · have hd : x.cps.toList.drop j = x.cps.getD j 0 :: x.cps.toList.drop (j + 1) := by
          rw [getD_at hjl]; exact List.drop_eq_getElem_cons (by simpa using hjl)
        rw [hd]
        unfold eolLen
        by_cases h : x.cps.getD j 0 = 13 ∧ j + 1 < x.cps.size ∧ x.cps.getD (j + 1) 0 = 10
        · rw [if_pos h]
          have hd2 : x.cps.toList.drop (j + 1) = x.cps.getD (j + 1) 0 :: x.cps.toList.drop (j + 2) := by
            rw [getD_at h.2.1]; exact List.drop_eq_getElem_cons (by simpa using h.2.1)
          rw [hd2, h.1, h.2.2]; rfl
        · rw [if_neg h, fixL_cons, if_pos a3]
          · rfl
          · rintro ⟨q1, r', q2⟩
            refine h ⟨q1, ?_, ?_⟩
            · have := congrArg List.length q2
              simp at this; (first | lia | omega)
            · have hl : j + 1 < x.cps.size := by
                have := congrArg List.length q2
                simp at this; (first | lia | omega)
              rw [getD_at hl]
              have := List.drop_eq_getElem_cons (l := x.cps.toList) (i := j + 1) (by simpa using hl)
              rw [this] at q2
              exact (List.cons.inj q2).1
theorem quote_skip {t : Array Nat} : ∀ (d p : Nat), p + d ≤ t.size → (∀ i, p ≤ i → i < p + d → isHit t t.size i = false) → quoteL (bol t p) (t.toList.drop p) = (t.toList.drop p).take d ++ quoteL (bol t (p + d)) (t.toList.drop (p + d))
  | 0, p, _, _ => rfl
  | d + 1, p, hl, hb => by
    have hpl : p < t.size := by (first | lia | omega)
    have hd : t.toList.drop p = t.getD p 0 :: t.toList.drop (p + 1) := by
      rw [getD_at hpl]; exact List.drop_eq_getElem_cons (by simpa using hpl)
    have hh := hb p (Nat.le_refl _) (by (first | lia | omega))
    unfold isHit at hh
    rw [decide_eq_true hpl, Bool.true_and] at hh
    rw [hd]
    show (if (bol t p && t.getD p 0 == 46) = true then _ else _) = _
    rw [if_neg (by rw [hh]; exact Bool.false_ne_true)]
    have hbol : (t.getD p 0 == 10) = bol t (p + 1) := by simp [bol]
    rw [hbol, quote_skip d (p + 1) (by (first | lia | omega)) (fun i h1 h2 => hb i (by (first | lia | omega)) (by (first | lia | omega))), List.take_succ_cons, List.cons_append, show p + 1 + d = p + (d + 1) by (first | lia | omega)]
theorem quoteL_nil (b : Bool) : quoteL b [] = [] := by cases b <;> rfl
theorem dot_flat {x : Str} (hx : x.cps.size ≤ 500) : ∀ (d p : Nat), x.cps.size + 1 - p ≤ d → p ≤ x.cps.size → ((pcs (dotFind x.cps) x ⟨#[46, 46]⟩ d p).map (·.cps.toList)).flatten = quoteL (bol x.cps p) (x.cps.toList.drop p)
  | 0, p, hd, hp => by (first | lia | omega)
  | d + 1, p, hd, hp => by
    show (((match dotFind x.cps p with
      | some (b, e) => (if p < b then [⟨x.cps.extract p b⟩] else []) ++ ⟨#[46, 46]⟩ :: pcs (dotFind x.cps) x ⟨#[46, 46]⟩ d e
      | none => if p < x.cps.size then [⟨x.cps.extract p x.cps.size⟩] else [] : List Str)).map (·.cps.toList)).flatten = _
    cases hf : dotFind x.cps p with
    | none =>
      unfold dotFind at hf
      have hn := findFrom_none (Option.map_eq_none_iff.mp hf)
      rw [quote_skip (x.cps.size - p) p (by (first | lia | omega)) (fun i h1 h2 => hn i h1 (by (first | lia | omega)))]
      have e0 : x.cps.toList.drop (p + (x.cps.size - p)) = [] := List.drop_eq_nil_of_le (by simp; (first | lia | omega))
      rw [e0, quoteL_nil, List.append_nil]
      show (((if p < x.cps.size then [⟨x.cps.extract p x.cps.size⟩] else []) : List Str).map (·.cps.toList)).flatten = _
      by_cases h : p < x.cps.size
      · rw [if_pos h]
        show (x.cps.extract p x.cps.size).toList ++ [] = _
        rw [extract_list, List.append_nil]
      · rw [if_neg h, show x.cps.size - p = 0 by (first | lia | omega)]; rfl
    | some be =>
      obtain ⟨b, e⟩ := be
      have hok := (dot_ok x.cps hx).yes p b e hp hf
      have ih := dot_flat hx d e (by (first | lia | omega)) hok.2.2.1
      unfold dotFind at hf
      obtain ⟨j, hj, he⟩ := Option.map_eq_some_iff.mp hf
      obtain ⟨a1, a2, a3, a4⟩ := findFrom_some hj
      have e1 : j = b := congrArg Prod.fst he
      have e2 : j + 1 = e := congrArg Prod.snd he
      subst e1
      subst e2
      have hjl : j < x.cps.size := by (first | lia | omega)
      show ((((if p < j then [⟨x.cps.extract p j⟩] else []) ++ ⟨#[46, 46]⟩ :: pcs (dotFind x.cps) x ⟨#[46, 46]⟩ d (j + 1)) : List Str).map (·.cps.toList)).flatten = _
      rw [List.map_append, List.flatten_append, List.map_cons, List.flatten_cons, ih, quote_skip (j - p) p (by (first | lia | omega)) (fun i h1 h2 => a4 i h1 (by (first | lia | omega))), show p + (j - p) = j by (first | lia | omega)]
      congr 1
      · by_cases h : p < j
        · rw [if_pos h]
          show (x.cps.extract p j).toList ++ [] = _
          rw [extract_list, List.append_nil]
        · rw [if_neg h, show j - p = 0 by (first | lia | omega)]; rfl
      · have hd : x.cps.toList.drop j = x.cps.getD j 0 :: x.cps.toList.drop (j + 1) := by
          rw [getD_at hjl]; exact List.drop_eq_getElem_cons (by simpa using hjl)
        unfold isHit at a3
        rw [decide_eq_true hjl, Bool.true_and] at a3
        rw [hd]
        show _ = (if (bol x.cps j && x.cps.getD j 0 == 46) = true then 46 :: 46 :: quoteL false (x.cps.toList.drop (j + 1)) else _)
        rw [if_pos a3]
        have hb : bol x.cps (j + 1) = false := by
          have : x.cps.getD j 0 = 46 := eq_of_beq (Bool.and_eq_true _ _ ▸ a3).2
          unfold bol
          rw [show j + 1 - 1 = j from rfl, this]; rfl
        rw [hb]; rfl
noncomputable def fixF (x : Str) : Str := Txt.join Str.empty (pcs (eolFind x.cps) x ⟨#[13, 10]⟩ (x.cps.size + 1) 0)
noncomputable def dotF (x : Str) : Str := Txt.join Str.empty (pcs (dotFind x.cps) x ⟨#[46, 46]⟩ (x.cps.size + 1) 0)
theorem fixF_list (x : Str) : (fixF x).cps.toList = fixL x.cps.toList := by
  unfold fixF
  rw [join_empty, eol_flat _ 0 (by (first | lia | omega)) (by (first | lia | omega))]; rfl
theorem dotF_list (x : Str) (hx : x.cps.size ≤ 500) : (dotF x).cps.toList = quoteL true x.cps.toList := by
  unfold dotF
  rw [join_empty, dot_flat hx _ 0 (by (first | lia | omega)) (by (first | lia | omega))]; rfl
end Mine
end
section
open PySem PySem.W PyProof.Rows
namespace Mine
theorem fresh_T14 : True := by
  k_with_none
  w_top off
  trivial
theorem crlf_lit : Str.ofString "\r\n" = ⟨#[13, 10]⟩ := by decide +kernel
theorem dots_lit : Str.ofString ".." = ⟨#[46, 46]⟩ := by decide +kernel
theorem sub_eol {prog : Program} {w : World} {A : Around} {E : Value → Shared → Prop} {s : Shared} {h₀ : Heap} {L : Addr} {m : Str → Option Value} {news : List (Addr × Obj)} {x : Str} {t tr : Tok} {Q : Value → Shared → Prop} (F : Fr h₀ L s.heap m) (N : News h₀ L s.heap news) (P : PatAt h₀ 156 eolCode) (hx : x.length ≤ 500)
    (h : ∀ t' h' tk', Fr h₀ L h' m → News h₀ L h' news → Q (.str (fixF x) t') { s with heap := h', toks := tk' }) :
    wpAny (model prog w) A (call (.builtin "re.Pattern.sub") [.ref 156, .str (Str.ofString "\r\n") tr, .str x t]) Q E s := by
  rw [crlf_lit]
  exact sub_call F N P (eol_ok x.cps) hx (by decide) (by decide +kernel) h
theorem sub_dot {prog : Program} {w : World} {A : Around} {E : Value → Shared → Prop} {s : Shared} {h₀ : Heap} {L : Addr} {m : Str → Option Value} {news : List (Addr × Obj)} {x : Str} {t tr : Tok} {Q : Value → Shared → Prop} (F : Fr h₀ L s.heap m) (N : News h₀ L s.heap news) (P : PatAt h₀ 151 dotCode) (hx : x.length ≤ 500)
    (h : ∀ t' h' tk', Fr h₀ L h' m → News h₀ L h' news → Q (.str (dotF x) t') { s with heap := h', toks := tk' }) :
    wpAny (model prog w) A (call (.builtin "re.Pattern.sub") [.ref 151, .str (Str.ofString "..") tr, .str x t]) Q E s := by
  rw [dots_lit]
  exact sub_call F N P (dot_ok x.cps hx) hx (by decide) (by decide +kernel) h
theorem fixL_len : ∀ l : List Nat, (fixL l).length ≤ 2 * l.length := by
  intro l
  induction h : l.length using Nat.strongRecOn generalizing l with
  | ind n ih =>
    subst h
    rw [fixL.eq_def]
    split
    · rename_i r
      have := ih r.length (by simp; omega) r rfl
      simp; omega
    · rename_i c r _
      have := ih r.length (by simp) r rfl
      split <;> simp <;> omega
    · simp
theorem fixF_len {x : Str} {n : Nat} (h : x.length ≤ n) : (fixF x).length ≤ 2 * n := by
  have e : (fixF x).length = (fixF x).cps.toList.length := by show (fixF x).cps.size = _; simp
  have e2 : x.length = x.cps.toList.length := by show x.cps.size = _; simp
  rw [e, fixF_list]
  have := fixL_len x.cps.toList
  omega
theorem fix_claim (w : World) (mean : ExcName → Option Value) (mg mb : Str → Option Value) (x : Str) (t : Tok) (hl : x.length ≤ 500) :
    PClaim w mean mg mb 170 [] True [.str x t] 4 120 (fun t => .str (fixF x) t) := by
  dsimp only [PClaim]
  k_fill
  intro dp un gd cn cs a ccd cl outer A₀ base h₀ L m s Q E news hB hF hK hN hT hk hown hpre hdp hun hret
  k_with_none
  k_with "!getMethod ref" => (k_here; (with_reducible show wpAny _ _ (getMethod (Value.ref _) (Str.ofString "sub") _) _ _ _); k_dflt (refine' pat_method ?k1 ?k2 ?_; (case k1 => k_asm); (case k2 => (first | assumption | exact PatAt.keeps (by assumption) (Fr.keep (by k_asm)))); k_whole))
  k_with "call builtin:re.Pattern.sub" => (refine sub_eol (by k_asm) (by k_asm) (by assumption) (by assumption) ?_; intro t9 h9 tk9 F9 N9)
  refine wpAny_call ?_
  k_dflt cell_enter
  rename Frag.In _ _ => X'
  have P1 : PatAt _ 156 eolCode := ⟨_, _, _, _, _, _, X' 156 _ (by k_is), rfl, rfl, rfl, rfl, rfl, rfl, X' 155 _ (by k_is), rfl, by decide +kernel⟩
  k_steps
  exact cb_retS hret rfl (by assumption) (by assumption)
theorem quote_claim (w : World) (mean : ExcName → Option Value) (mg mb : Str → Option Value) (x : Str) (t : Tok) (hl : x.length ≤ 250) :
    PClaim w mean mg mb 163 [] True [.str x t] 4 120 (fun t => .str (dotF (fixF x)) t) := by
  dsimp only [PClaim]
  k_fill
  intro dp un gd cn cs a ccd cl outer A₀ base h₀ L m s Q E news hB hF hK hN hT hk hown hpre hdp hun hret
  have hl2 : x.length ≤ 500 := by omega
  have hl3 : (fixF x).length ≤ 500 := fixF_len hl
  k_with_none
  k_with "!getMethod ref" => (k_here; (with_reducible show wpAny _ _ (getMethod (Value.ref _) (Str.ofString "sub") _) _ _ _); k_dflt (refine' pat_method ?k1 ?k2 ?_; (case k1 => k_asm); (case k2 => (first | assumption | exact PatAt.keeps (by assumption) (Fr.keep (by k_asm)))); k_whole))
  k_with "call builtin:re.Pattern.sub" => (first
    | (refine sub_eol (by k_asm) (by k_asm) (by assumption) (by assumption) ?_; intro t9 h9 tk9 F9 N9)
    | (refine sub_dot (by k_asm) (by k_asm) (by assumption) (by assumption) ?_; intro t9 h9 tk9 F9 N9))
  refine wpAny_call ?_
  k_dflt cell_enter
  rename Frag.In _ _ => X'
  have P1 : PatAt _ 156 eolCode := ⟨_, _, _, _, _, _, X' 156 _ (by k_is), rfl, rfl, rfl, rfl, rfl, rfl, X' 155 _ (by k_is), rfl, by decide +kernel⟩
  have P2 : PatAt _ 151 dotCode := ⟨_, _, _, _, _, _, X' 151 _ (by k_is), rfl, rfl, rfl, rfl, rfl, rfl, X' 150 _ (by k_is), rfl, by decide +kernel⟩
  k_steps
  exact cb_retS hret rfl (by assumption) (by assumption)
end Mine
end
section
open PySem PySem.W PyProof.Rows PySem.Builtin PySem.Builtin.ObjectAttr
namespace Mine
theorem fresh_H1 : True := by
  k_with_none
  w_top off
  trivial
theorem fn_slot : Slot "function" "__setattr__" "object.__setattr__" :=
  .of (owner := "object") (n := "__setattr__") (by rw [typeLookup_type, builtinLookup_eq_fast]; kernel_rfl) (by decide +kernel) (by decide +kernel) (by decide +kernel)
    (by first | exact .inl (by decide +kernel) | exact .inr (by decide +kernel)) (by rw [isSubtype_type]; kernel_rfl)
theorem fn_mro : mroOf (.type "function") = pure [.type "function", .type "object"] := by kernel_rfl
theorem fn_passes (self : Value) : refuseLoop self "__setattr__" [.type "function", .type "object"] = pure () := by kernel_rfl
theorem fn_noread : typeLookup (.type "function") (Str.ofString "read") = pure none := by rw [typeLookup_type, builtinLookup_eq_fast]; kernel_rfl
theorem fn_tells (f : Addr) : ownStreamTells (.ref f) (.type "function") = pure () := by kernel_rfl
theorem fn_hasDict : typeHasDict (.type "function") = true := by decide +kernel
theorem fn_notFinal : finalisedInACycleAlone "function" = false := by decide +kernel
theorem fn_made (a d : Addr) : dictMade (.type "function") a d = pure (some d) := by
  kernel_rfl
section
variable {prog : Program} {w : World} {A : Around} {E : Value → Shared → Prop} {s : Shared} {h₀ : Heap} {L : Addr} {m : Str → Option Value} {news : List (Addr × Obj)}
theorem fn_setattr {f : Addr} {fd : FuncData} {v : Value} {Q : Unit → Shared → Prop} {pre post : List (Addr × Obj)} (F : Fr h₀ L s.heap m) (N : News h₀ L s.heap (pre ++ (f, ⟨.type "function", none, .func fd, #[]⟩) :: post)) (h1 : ∀ p ∈ pre, p.1 ≠ f) (h2 : ∀ p ∈ post, p.1 ≠ f)
    (h : ∀ d tk h' tk', (∀ p ∈ pre ++ (f, (⟨.type "function", none, .func fd, #[]⟩ : Obj)) :: post, p.1 < d) → Fr h₀ L h' m → News h₀ L h' ((d, dictOf [⟨PyData.keyHash w.params (Str.ofString "read"), .str (Str.ofString "read") tk, v⟩] 1) :: (pre ++ (f, ⟨.type "function", some d, .func fd, #[]⟩) :: post)) → Q () { s with heap := h', toks := tk' }) :
    wpAny (model prog w) A (setAttr (.ref f) (Str.ofString "read") v) Q E s := by
  have hf : s.heap.get? f = some ⟨.type "function", none, .func fd, #[]⟩ := (N (f, ⟨.type "function", none, .func fd, #[]⟩) (by simp)).1
  have hT : ∀ tk, ({ s with toks := tk } : Shared).TypeIs (.ref f) "function" := fun tk => ⟨_, hf, rfl⟩
  unfold setAttr
  refine wpAny_bind (wpAny_mkText ?_)
  refine wpAny_bind (wpAny_callSpecial?_slot (hT _) fn_slot (wpAny_call_entry fn_slot (hT _) PySem.F.store_object.entry ?_ (PySem.F.store_object.args _ _ _)))
  rw [osa_eq, refuse_eq]
  refine wpAny_bind (wpAny_bind (wpAny_typeOf (hT _) (wpAny_bind (wpAny_of_eq fn_mro ?_))))
  rw [fn_passes]
  refine wpAny_pure (wpAny_bind (wpAny_typeOf (hT _) (wpAny_bind (wpAny_of_eq fn_noread (wpAny_bind (m := storeTaker? none) (wpAny_pure ?_))))))
  show wpAny _ _ (storeInOwnDict (.ref f) (.type "function") _ _ _ _) _ _ _
  unfold storeInOwnDict
  rw [fn_tells]
  refine wpAny_bind (wpAny_pure ?_)
  refine wpAny_bind (m := instanceDict f true) ?_
  unfold instanceDict
  refine wpAny_bind (wpAny_loadPart hf ?_)
  show wpAny _ _ (if (!true || !typeHasDict (.type "function")) = true then _ else _) _ _ _
  rw [fn_hasDict, if_neg (by decide)]
  have F1 := F.push ({ cls := .type "dict", data := .dict #[] } : Obj)
  have N1 := News.push F N ({ cls := .type "dict", data := .dict #[] } : Obj)
  have hlt : ∀ p ∈ pre ++ (f, (⟨.type "function", none, .func fd, #[]⟩ : Obj)) :: post, p.1 < s.heap.objs.size := fun p hp => Heap.lt_size (N p hp).1
  refine wpAny_bind (wpAny_alloc ?_)
  have hfl : f < s.heap.objs.size := hlt (f, ⟨.type "function", none, .func fd, #[]⟩) (by simp)
  obtain ⟨F2, N2⟩ := news_upd (pre := (s.heap.objs.size, ({ cls := .type "dict", data := .dict #[] } : Obj)) :: pre) (f := fun o => { o with dict := some s.heap.objs.size }) (o' := ⟨.type "function", some s.heap.objs.size, .func fd, #[]⟩) F1 N1
    (fun p hp => by rcases List.mem_cons.mp hp with rfl | hp; exact Nat.ne_of_gt hfl; exact h1 p hp) h2 rfl rfl
  refine wpAny_bind (wpAny_update (N1 (f, ⟨.type "function", none, .func fd, #[]⟩) (by simp)).1 ?_)
  refine wpAny_bind (m := dictMade (.type "function") f s.heap.objs.size) ?_
  rw [fn_made]
  refine wpAny_pure (wpAny_pure (a := some s.heap.objs.size) (wpAny_bind (wpAny_pure (wpAny_bind ?_))))
  have D := (N2 (s.heap.objs.size, ({ cls := .type "dict", data := .dict #[] } : Obj)) (by simp)).1
  unfold nsSet
  refine wpAny_bind (wpAny_bind (wpAny_askSetting (wpAny_pure (wpAny_bind (wpAny_mkText (wpAny_bind (wpAny_loadPart D ?_)))))))
  dsimp only
  have hne : ∀ p ∈ pre ++ (f, (⟨.type "function", some s.heap.objs.size, .func fd, #[]⟩ : Obj)) :: post, p.1 ≠ s.heap.objs.size := by
    intro p hp
    rcases List.mem_append.mp hp with q | q
    · exact Nat.ne_of_lt (hlt p (List.mem_append_left _ q))
    · rcases List.mem_cons.mp q with rfl | q
      · exact Nat.ne_of_lt hfl
      · exact Nat.ne_of_lt (hlt p (List.mem_append_right _ (List.mem_cons_of_mem _ q)))
  obtain ⟨U1, U2⟩ := news_upd (pre := []) (f := Obj.putName (Str.ofString "read") (PyData.keyHash w.params (Str.ofString "read")) (.str (Str.ofString "read") (s.toks + 1)) v) (o' := dictOf [⟨PyData.keyHash w.params (Str.ofString "read"), .str (Str.ofString "read") (s.toks + 1), v⟩] 1) F2 N2 (fun _ h => by cases h) hne rfl rfl
  have c : aRefKeyMayBeTheName (Str.ofString "read") #[] = false := rfl
  rw [if_neg (by rw [c]; exact Bool.false_ne_true)]
  have D' := (U2 (s.heap.objs.size, dictOf [⟨PyData.keyHash w.params (Str.ofString "read"), .str (Str.ofString "read") (s.toks + 1), v⟩] 1) (by simp)).1
  refine wpAny_updatePart D ?_
  refine wpAny_bind (wpAny_lookBehind D' (pastItsLine_dict (Nat.le_of_ble_eq_true rfl)) ?_)
  exact wpAny_pure ⟨_, rfl, wpAny_pure (h _ _ _ _ hlt U1 U2)⟩
end
end Mine
end
section
open PySem PySem.W PyProof.Rows PySem.Builtin PySem.Builtin.ObjectAttr
namespace Mine
theorem fresh_H2 : True := by
  k_with_none
  w_top off
  trivial
theorem fn_ga : Slot "function" "__getattribute__" "object.__getattribute__" :=
  .of (owner := "object") (n := "__getattribute__") (by rw [typeLookup_type, builtinLookup_eq_fast]; kernel_rfl) (by decide +kernel) (by decide +kernel) (by decide +kernel)
    (by first | exact .inl (by decide +kernel) | exact .inr (by decide +kernel)) (by rw [isSubtype_type]; kernel_rfl)
theorem fn_nohook : typeLookup (.type "function") "__getattr__" = pure none := by rw [typeLookup_type, builtinLookup_eq_fast]; kernel_rfl
theorem fn_gaEntry : entryFor table "object.__getattribute__" = some Builtin.«object.__getattribute__» := entryFor_of_tree (by kernel_rfl)
theorem fn_gaArgs (x y : Value) : argsOk "object.__getattribute__" ⟨[x, y], []⟩ := by unfold argsOk; kernel_rfl
section
variable {prog : Program} {w : World} {A : Around} {E : Value → Shared → Prop} {s : Shared} {h₀ : Heap} {L : Addr} {m : Str → Option Value} {news : List (Addr × Obj)}
theorem fn_getattr {expr : Bool} {f d : Addr} {fd : FuncData} {v : Value} {es : List DictEntry} {n : Nat} {Q : Value → Shared → Prop} (hf : s.heap.get? f = some ⟨.type "function", some d, .func fd, #[]⟩) (hd : s.heap.get? d = some (dictOf es n)) (hl : getL (Str.ofString "read") es = some (some v)) (hv : handedIn v = true)
    (h : Q v { s with toks := s.toks + 1 }) : wpAny (model prog w) A (getAttr (.ref f) (Str.ofString "read") expr) Q E s := by
  have hT : ({ s with toks := s.toks + 1 } : Shared).TypeIs (.ref f) "function" := ⟨_, hf, rfl⟩
  unfold getAttr getAttrBy
  refine wpAny_bind (wpAny_mkText (wpAny_holding (wpAny_bind (wpAny_typeOf hT (wpAny_bind (wpAny_of_eq fn_ga.lookup ?_))))))
  show wpAny _ _ (getAttrByItsOwn _ _ (.type "function") _ _ _) _ _ _
  unfold getAttrByItsOwn
  refine wpAny_bind (m := hookBefore (.type "function")) (wpAny_pure (wpAny_bind (wpAny_attempt (wpAny_holding ?_))))
  unfold callGetattribute
  rw [show (expr && onTheHeap (Value.builtin "object.__getattribute__")) = false from Bool.and_false _, if_neg (by decide)]
  unfold boundAndCalled
  rw [fn_ga.bind]
  refine wpAny_bind (wpAny_pure ?_)
  refine wpAny_call (codeAny_call_builtin fn_ga.plain fn_gaEntry (fn_ga.check _ _ _ _ _ _ _ _ hT (fn_gaArgs _ _) ?_))
  unfold Builtin.«object.__getattribute__»
  refine wpAny_bind (m := slotArgs "__getattribute__" 1 _) (wpAny_pure (a := (Value.ref f, [Value.str (Str.ofString "read") s.toks])) ?_)
  refine wpAny_bind (wpAny_pure (wpAny_bind (wpAny_typeOf hT (wpAny_bind ?_))))
  unfold find
  refine wpAny_bind (wpAny_of_eq fn_noread (wpAny_bind (m := getOf none) (wpAny_pure (wpAny_bind (m := dataDescriptor? none none) (wpAny_pure ?_)))))
  unfold ownThenClass inOwnDict
  refine wpAny_bind (wpAny_bind (m := ObjectAttr.ownDict f) ?_)
  unfold ObjectAttr.ownDict
  refine wpAny_bind (wpAny_loadPart hf ?_)
  show wpAny _ _ (instanceDict f false) _ _ _
  unfold instanceDict
  refine wpAny_bind (wpAny_loadPart hf ?_)
  refine wpAny_pure ?_
  show wpAny _ _ (nsGet d _) _ _ _
  refine wpAny_bind (wpAny_loadPart hd ?_)
  rw [nsLook_of (show lookIn (Str.ofString "read") (dictOf es n) = some (some v) from hl)]
  refine wpAny_pure (wpAny_bind (wpAny_rule (wpAny_pure ?_)))
  refine wpAny_pure ?_
  show wpAny _ _ (handedOut v) _ _ _
  exact handed_on hv h
theorem fn_method {pl : Sem Bool} {f d : Addr} {fd : FuncData} {v : Value} {es : List DictEntry} {n : Nat} {Q : Value × List Value → Shared → Prop} (N : News h₀ L s.heap news) (hf : (f, (⟨.type "function", some d, .func fd, #[]⟩ : Obj)) ∈ news) (hd : (d, dictOf es n) ∈ news) (hl : getL (Str.ofString "read") es = some (some v)) (hv : handedIn v = true)
    (h : Q (v, []) { s with toks := s.toks + 1 }) : wpAny (model prog w) A (getMethod (.ref f) (Str.ofString "read") pl) Q E s := by
  have hT : s.TypeIs (.ref f) "function" := ⟨_, (N _ hf).1, rfl⟩
  unfold getMethod
  refine wpAny_bind (wpAny_specialOf hT fn_ga.lookup ?_)
  dsimp only
  rw [PySem.F.canon_object_ga, if_neg (by decide)]
  refine wpAny_bind (wpAny_specialOf hT fn_nohook ?_)
  refine wpAny_bind (wpAny_specialOf hT fn_noread ?_)
  exact wpAny_bind (fn_getattr (N _ hf).1 (N _ hd).1 hl hv (wpAny_pure h))
end
end Mine
end
section
open PySem PySem.W PyProof.Rows PySem.Builtin
namespace Mine
theorem fresh_C1 : True := by
  k_with_none
  w_top off
  trivial
noncomputable abbrev citObj (q : Addr) (t : Tok) : Obj := { cls := .type "callable_iterator", data := .fields #[.ref q, .str Str.empty t, .bool false] }
noncomputable abbrev citEnd : Obj := { cls := .type "callable_iterator", data := .fields #[.none, .none, .bool true] }
theorem cit_slotNext : Slot "callable_iterator" "__next__" "callable_iterator.__next__" :=
  .of (owner := "callable_iterator") (n := "__next__") (by rw [typeLookup_type, builtinLookup_eq_fast]; kernel_rfl) (by decide +kernel) (by decide +kernel) (by decide +kernel)
    (by first | exact .inl (by decide +kernel) | exact .inr (by decide +kernel)) (by rw [isSubtype_type]; kernel_rfl)
theorem cit_slotIter : Slot "callable_iterator" "__iter__" "callable_iterator.__iter__" :=
  .of (owner := "callable_iterator") (n := "__iter__") (by rw [typeLookup_type, builtinLookup_eq_fast]; kernel_rfl) (by decide +kernel) (by decide +kernel) (by decide +kernel)
    (by first | exact .inl (by decide +kernel) | exact .inr (by decide +kernel)) (by rw [isSubtype_type]; kernel_rfl)
theorem cit_entryIter : entryFor table "callable_iterator.__iter__" = some Builtin.«dict_keyiterator.__iter__» :=
  entryFor_alias (id' := "dict_keyiterator.__iter__") (by kernel_rfl) rfl (by decide +kernel) (by kernel_rfl)
theorem cit_argsIter (a : Value) : argsOk "callable_iterator.__iter__" ⟨[a], []⟩ := by unfold argsOk; kernel_rfl
theorem cit_entryNext : entryFor table "callable_iterator.__next__" = some Builtin.«callable_iterator.__next__» := entryFor_of_tree (by kernel_rfl)
theorem cit_argsNext (a : Value) : argsOk "callable_iterator.__next__" ⟨[a], []⟩ := by unfold argsOk; kernel_rfl
theorem cit_entryNew : entryFor table "iter" = some Builtin.«iter» := entryFor_of_tree (by kernel_rfl)
theorem cit_argsNew (a b : Value) : argsOk "iter" ⟨[a, b], []⟩ := by unfold argsOk; kernel_rfl
theorem cit_mcall : typeLookup (.type "method") "__call__" = pure (some (.builtin "method.__call__")) := by rw [typeLookup_type, builtinLookup_eq_fast]; kernel_rfl
section
variable {prog : Program} {w : World} {A : Around} {E : Value → Shared → Prop} {s : Shared} {h₀ : Heap} {L : Addr} {m : Str → Option Value} {news : List (Addr × Obj)}
theorem cit_iter {c : Addr} {o : Obj} {Q : Value → Shared → Prop} (hc : s.heap.get? c = some o) (ho : o.cls = .type "callable_iterator") (h : Q (.ref c) s) : wpAny (model prog w) A (pyIter (.ref c)) Q E s := by
  have hT : s.TypeIs (.ref c) "callable_iterator" := ⟨_, hc, ho⟩
  refine wpAny_pyIter_slot hT cit_slotIter (wpAny_call_entry cit_slotIter hT cit_entryIter ?_ (cit_argsIter _))
  show wpAny _ _ (ret (.ref c)) _ _ s
  exact wpAny_pure ⟨_, rfl, "callable_iterator", _, hT, cit_slotNext.lookup, h⟩
theorem wpAny_callBorrowed {f : Value} {pos : List Value} {Q : Value → Shared → Prop} (h : wpAny (model prog w) A (call f pos) Q E s) : wpAny (model prog w) A (callBorrowed f pos) Q E s := by
  intro Γ p hΓ
  have h2 := h Γ p hΓ
  unfold call at h2
  rw [Sem.wp_runValue] at h2
  unfold callBorrowed
  rw [Sem.wp_call]
  refine wpCode_mono (fun r s' z => ?_) h2
  rcases r with e | (_ | _ | _ | _) <;> exact z
theorem borrows_meth {q g : Addr} {self : Value} {og : Obj} {fd : FuncData} {Q : Bool → Shared → Prop} (hq : s.heap.get? q = some (methodObj (.ref g) self)) (hg : s.heap.get? g = some og) (hd : og.data = .func fd) (h : Q true s) : wpAny (model prog w) A (borrowsExactly (.ref q)) Q E s := by
  unfold borrowsExactly
  refine wpAny_bind (wpAny_load hq ?_)
  show wpAny _ _ (if (Value.type "method" == Value.type "method") = true then _ else _) _ _ _
  rw [if_pos (by decide)]
  show wpAny _ _ (load g >>= _) _ _ _
  refine wpAny_bind (wpAny_load hg ?_)
  rw [hd]
  exact wpAny_pure h
theorem stop_iter {α : Type} {A : Around} {Q : α → Shared → Prop} {E : Value → Shared → Prop} (hh : A.handled = none) (F : Fr h₀ L s.heap m) (N : News h₀ L s.heap news)
    (h : ∀ e h', Fr h₀ L h' m → News h₀ L h' news → ({ s with heap := h' } : Shared).TypeIs e "StopIteration" → E e { s with heap := h' }) : wpAny (model prog w) A (SmallTypes.stopIteration : Sem α) Q E s := by
  unfold SmallTypes.stopIteration
  refine wpAny_bind ?_
  simp only [newExc, newTuple]
  refine wpAny_bind (wpAny_newObj_type ?_ (by size_fits))
  refine wpAny_bind (m := firstArgMember _ _) (wpAny_of_eq (a := Value.none) (by first | rfl | (simp only [firstArgMember]; rfl)) ?_)
  refine wpAny_newObj_type ?_ (by size_fits)
  simp only [raiseNew]
  refine wpAny_bind (wpAny_handled ?_)
  rw [hh]
  refine wpAny_bind (wpAny_pure (wpAny_throw ?_))
  exact h _ _ ((F.push _).push _) (fun p hp => (News.push (F.push _) (News.push F N _) _) p (by simp [hp])) ⟨_, Heap.get?_push_size _ rfl, rfl⟩
noncomputable def CitGo (h₀ : Heap) (L c q : Addr) (t : Tok) (Q : Option Value → Shared → Prop) (r : Value) (s' : Shared) : Prop :=
  ∃ y t' m' pre post, r = .str y t' ∧ Fr h₀ L s'.heap m' ∧ News h₀ L s'.heap (pre ++ (c, citObj q t) :: post) ∧ (∀ p ∈ pre, p.1 ≠ c) ∧ (∀ p ∈ post, p.1 ≠ c) ∧ (y ≠ Str.empty → Q (some (.str y t')) s') ∧
    (y = Str.empty → ∀ h', Fr h₀ L h' m' → News h₀ L h' (pre ++ (c, citEnd) :: post) → Q none { s' with heap := h' })
theorem cit_next {c q g : Addr} {t : Tok} {self : Value} {og : Obj} {fd : FuncData} {Q : Option Value → Shared → Prop} (hh : A.handled = none) (F : Fr h₀ L s.heap m) (N : News h₀ L s.heap news) (hc : (c, citObj q t) ∈ news) (hq : (q, methodObj (.ref g) self) ∈ news) (hg : h₀.get? g = some og) (hd : og.data = .func fd)
    (h : codeAny (model prog w) A.in1 (.call (.ref g) ⟨[self], []⟩) (fun r s' => match r with | .ok (.ret v) => CitGo h₀ L c q t Q v s' ∧ s'.heap.get? q = some (methodObj (.ref g) self) | .ok _ => False | .error _ => False) s) : wpAny (model prog w) A (pyNext (.ref c)) Q E s := by
  have hT : s.TypeIs (.ref c) "callable_iterator" := ⟨_, (N _ hc).1, rfl⟩
  unfold pyNext
  refine wpAny_bind (wpAny_attempt (wpAny_callSpecial?_slot (name := Str.ofString "__next__") hT cit_slotNext (wpAny_call_entry cit_slotNext hT cit_entryNext ?_ (cit_argsNext _))))
  unfold Builtin.«callable_iterator.__next__»
  refine wpAny_bind (m := slotArgs "__next__" 0 _) (wpAny_pure (a := (Value.ref c, [])) ?_)
  refine wpAny_bind (wpAny_field (N _ hc).1 rfl (x := .bool false) rfl ?_)
  dsimp only
  rw [if_neg (show ¬ (Value.bool false == Value.bool true) = true by decide)]
  refine wpAny_bind (wpAny_field (N _ hc).1 rfl (x := .ref q) rfl ?_)
  refine wpAny_bind (wpAny_attempt ?_)
  unfold callOutOfASlot
  refine wpAny_bind (borrows_meth (N _ hq).1 (F.keep _ _ hg) hd ?_)
  rw [if_pos rfl]
  refine wpAny_callBorrowed (wpAny_call (method_call (N _ hq).1 ?_))
  refine codeAny_mono h ?_
  rintro (e | (_ | _ | _ | r)) s' z
  · exact z.elim
  · exact z.elim
  · exact z.elim
  · exact z.elim
  refine cps ?_
  intro C9 hC9
  obtain ⟨⟨y, t', m', pre, post, rfl, F', N', n1, n2, hne, hE⟩, hq'⟩ := z
  refine hC9 ?_
  clear hC9 C9
  have hc' := (N' (c, citObj q t) (by simp)).1
  dsimp only
  refine wpAny_bind (wpAny_field hc' rfl (x := .bool false) rfl ?_)
  rw [if_neg (show ¬ (Value.bool false == Value.bool true) = true by decide)]
  refine wpAny_bind (wpAny_field hc' rfl (x := .str Str.empty t) rfl ?_)
  refine wpAny_bind (wpAny_holding (wpAny_eqBool_str ?_))
  by_cases hy : y = Str.empty
  · rw [if_neg (by simp [hy])]
    refine wpAny_bind (wpAny_rule ?_)
    refine wpAny_bind ?_
    refine wpAny_bind (wpAny_field hc' rfl (x := .ref q) rfl ?_)
    refine wpAny_bind ?_
    unfold slotLetsGo
    refine wpAny_bind (borrows_meth hq' (F'.keep _ _ hg) hd ?_)
    rw [if_pos rfl]
    refine wpAny_pure ?_
    obtain ⟨F1, N1⟩ := news_upd (f := Obj.mapFields (·.setIfInBounds 0 .none)) (o' := { cls := .type "callable_iterator", data := .fields #[.none, .str Str.empty t, .bool false] }) F' N' n1 n2 rfl rfl
    refine wpAny_bind (wpAny_setField hc' rfl (by simp) ?_)
    have hc1 := (N1 (c, { cls := .type "callable_iterator", data := .fields #[.none, .str Str.empty t, .bool false] }) (by simp)).1
    obtain ⟨F2, N2⟩ := news_upd (f := Obj.mapFields (·.setIfInBounds 1 .none)) (o' := { cls := .type "callable_iterator", data := .fields #[.none, .none, .bool false] }) F1 N1 n1 n2 rfl rfl
    refine wpAny_bind (wpAny_setField hc1 rfl (by simp) ?_)
    have hc2 := (N2 (c, { cls := .type "callable_iterator", data := .fields #[.none, .none, .bool false] }) (by simp)).1
    obtain ⟨F3, N3⟩ := news_upd (f := Obj.mapFields (·.setIfInBounds 2 (.bool true))) (o' := citEnd) F2 N2 n1 n2 rfl rfl
    refine wpAny_setField hc2 rfl (by simp) ?_
    refine stop_iter hh F3 N3 fun e h' F4 N4 hTe => ?_
    dsimp only
    exact wpAny_bind (wpAny_isInstance (T := "StopIteration") (b := true) hTe isSubtype_stop (wpAny_pure (hE hy _ F4 N4)))
  · rw [if_pos (by simp [Ne.symm hy])]
    exact wpAny_pure ⟨_, rfl, wpAny_pure (hne hy)⟩
theorem cit_ended {c : Addr} {Q : Option Value → Shared → Prop} (hh : A.handled = none) (F : Fr h₀ L s.heap m) (N : News h₀ L s.heap news) (hc : (c, citEnd) ∈ news)
    (h : ∀ h', Fr h₀ L h' m → News h₀ L h' news → Q none { s with heap := h' }) : wpAny (model prog w) A (pyNext (.ref c)) Q E s := by
  have hT : s.TypeIs (.ref c) "callable_iterator" := ⟨_, (N _ hc).1, rfl⟩
  unfold pyNext
  refine wpAny_bind (wpAny_attempt (wpAny_callSpecial?_slot (name := Str.ofString "__next__") hT cit_slotNext (wpAny_call_entry cit_slotNext hT cit_entryNext ?_ (cit_argsNext _))))
  unfold Builtin.«callable_iterator.__next__»
  refine wpAny_bind (m := slotArgs "__next__" 0 _) (wpAny_pure (a := (Value.ref c, [])) ?_)
  refine wpAny_bind (wpAny_field (N _ hc).1 rfl (x := .bool true) rfl ?_)
  rw [if_pos (show (Value.bool true == Value.bool true) = true by decide)]
  refine wpAny_bind (wpAny_rule ?_)
  refine wpAny_bind (stop_iter hh F N fun e h' F4 N4 hTe => ?_)
  dsimp only
  exact wpAny_bind (wpAny_isInstance (T := "StopIteration") (b := true) hTe isSubtype_stop (wpAny_pure (h _ F4 N4)))
theorem cit_new {q : Addr} {f self : Value} {t : Tok} {Q : Value → Shared → Prop} (F : Fr h₀ L s.heap m) (N : News h₀ L s.heap news) (hq : (q, methodObj f self) ∈ news)
    (h : ∀ c h', (∀ p ∈ news, p.1 < c) → Fr h₀ L h' m → News h₀ L h' ((c, citObj q t) :: news) → Q (.ref c) { s with heap := h' }) : wpAny (model prog w) A (call (.builtin "iter") [.ref q, .str Str.empty t]) Q E s := by
  refine PySem.Calls.call_function_entry (by decide +kernel) (by decide +kernel) cit_entryNew (cit_argsNew _ _) ?_
  unfold Builtin.«iter»
  refine wpAny_bind (m := someArgs "iter" 1 2 _) (wpAny_of_eq (a := [Value.ref q, Value.str Str.empty t]) (by first | rfl | kernel_rfl!) ?_)
  refine wpAny_bind (wpAny_specialOf ⟨_, (N _ hq).1, rfl⟩ cit_mcall ?_)
  show wpAny _ _ (rule "iter.sentinel" >>= _) _ _ _
  refine wpAny_bind (wpAny_rule (wpAny_bind ?_))
  unfold newFields
  refine wpAny_newObj_type ?_ (by size_fits)
  exact wpAny_pure ⟨_, rfl, h _ _ (fun p hp => Heap.lt_size (N p hp).1) (F.push _) (News.push F N _)⟩
end
end Mine
end
section
open PySem PySem.W PyProof.Rows
namespace Mine
theorem fresh_P1 : True := by
  k_with_none
  w_top off
  trivial
/-- the sign at place i, or the empty text -/
noncomputable def chAt (x : Str) (i : Nat) : Str := match x.cps[i]? with | some c => ⟨#[c]⟩ | none => Str.empty
theorem ix_one (n i : Nat) : Builtin.Str.strSliceIndices (some (i : Int)) (some ((i : Int) + 1)) 1 n = if i < n then [i] else [] := by
  have e1 : ¬ ((i : Int) < 0) := by (first | lia | omega)
  have e2 : ¬ ((i : Int) + 1 < 0) := by (first | lia | omega)
  by_cases h : i < n
  · have a : max 0 (min (i : Int) (n : Int)) = i := by (first | lia | omega)
    have b : max 0 (min ((i : Int) + 1) (n : Int)) = i + 1 := by (first | lia | omega)
    have c : (i : Int) < i + 1 := by (first | lia | omega)
    have d : (((i : Int) + 1 - i + 1 - 1) / 1).toNat = 1 := by (first | lia | omega)
    unfold Builtin.Str.strSliceIndices sliceRange
    simp only [e1, e2, if_false, if_true, show ((1 : Int) > 0) by decide, a, b, c, d, h]
    simp
  · have a : max 0 (min (i : Int) (n : Int)) = n := by (first | lia | omega)
    have b : max 0 (min ((i : Int) + 1) (n : Int)) = n := by (first | lia | omega)
    have c : ¬ (n : Int) < n := by (first | lia | omega)
    unfold Builtin.Str.strSliceIndices sliceRange
    simp only [e1, e2, if_false, if_true, show ((1 : Int) > 0) by decide, a, b, c, h]
    simp
theorem slice_ch {x : Str} {i : Nat} (hi : i ≤ x.cps.size) : Txt.slice x (some (i : Int)) (some ((i : Int) + 1)) = chAt x i := by
  unfold Txt.slice chAt
  rw [ix_one]
  have hl : x.length = x.cps.size := rfl
  rw [hl]
  by_cases h : i < x.cps.size
  · rw [if_pos h]
    have e : x.cps[i]? = some x.cps[i] := Array.getElem?_eq_getElem h
    split
    · rename_i q
      have n1 : x.cps.size = 1 := by simp at q; (first | lia | omega)
      have i0 : i = 0 := by (first | lia | omega)
      subst i0
      rw [e]
      obtain ⟨a⟩ := x
      dsimp only at *
      congr 1
      apply Array.ext
      · simpa using n1
      · intro j h1 h2
        have : j = 0 := by (first | lia | omega)
        subst this
        rfl
    · simp [e]
  · rw [if_neg h]
    have e : x.cps[i]? = none := Array.getElem?_eq_none (by (first | lia | omega))
    rw [e]
    split
    · rename_i q
      have n1 : x.cps.size = 0 := by simp at q; (first | lia | omega)
      obtain ⟨a⟩ := x
      dsimp only at *
      rw [Array.eq_empty_of_size_eq_zero n1]
      rfl
    · rfl
end Mine
end
section
open PySem PySem.W PyProof.Rows
namespace Mine
theorem fresh_T17 : True := by
  k_with_none
  w_top off
  trivial
theorem allLt_up {a b : Addr} {l : List (Addr × Obj)} (h : AllLt a l) (hab : a ≤ b) : AllLt b l := allLt_of fun p hp => Nat.lt_of_lt_of_le (tb_ltOf h p hp) hab
theorem drop4 {g h : Heap} {L : Addr} {a b c d : Addr × Obj} {l : List (Addr × Obj)} (N : News g L h (a :: b :: c :: d :: l)) : News g L h l := fun p hp => N p (by simp [hp])
noncomputable def ReadOk (w : World) (mean : ExcName → Option Value) (mg mb : Str → Option Value) (x : Str) (l r : Addr) (rest : List (Addr × Obj)) : Prop :=
  ∀ (dp un : Nat) (gd : Option (List Code)) (cn : Str) (cs : Scope) (a : Addr) (ccd : Value) (cl : List (Str × Addr)) (outer : List Env) (A₀ : Around) (base h₀ : Heap) (L : Addr) (m : Str → Option Value) (s : Shared) (Q E : Value → Shared → Prop) (news : List (Addr × Obj)) (i : Nat) (ti t1 : Tok),
    Below A₀ base outer h₀ → Fr h₀ L s.heap m → (hd.heap_39 w.params).In h₀ → News h₀ L s.heap ((l, W.listOf [Value.int (i : Int) ti].toArray 0) :: news) → Top topProg LooseL mean mg mb h₀ → cs.kind = .function → CodeHd h₀ 176 172 →
    (∀ p ∈ rest, p ∈ news) → dp + 1 < recursionLimit → un + 40 < cLine → (∀ p ∈ news, p.1 ≠ l) → i ≤ x.cps.size →
    (∀ (t ti' : Tok) (h' : Heap) (tk' : Nat), Fr h₀ L h' m → News h₀ L h' ((l, W.listOf [Value.int ((i : Int) + ((chAt x i).length : Int)) ti'].toArray 0) :: news) → Q (.str (chAt x i) t) { s with heap := h', toks := tk' }) →
      wpAny (model Challenge.rw_pe0179_01.row.prog w) (ktrTop dp un gd cn cs L a ccd cl outer) (call (.ref r) [.int 1 t1]) Q E s
theorem take3 {P : Prop} {g h : Heap} {L : Addr} {p q : Addr × Obj} {r : Addr} {ro : Obj} {l : List (Addr × Obj)} (N : News g L h (p :: q :: (r, ro) :: l)) (k : ∀ ro', ro' = ro → News g L h (p :: q :: (r, ro') :: l) → P) : P := k ro rfl N
theorem take1 {P : Prop} {g h : Heap} {L : Addr} {p : Addr × Obj} {l : List (Addr × Obj)} (N : News g L h (p :: l)) (k : ∀ ro, (p.1, ro) = p → News g L h ((p.1, ro) :: l) → P) : P := k p.2 rfl N
theorem read_use {w : World} {mean : ExcName → Option Value} {mg mb : Str → Option Value} {x : Str} {l r : Addr} {rest : List (Addr × Obj)} {dp un : Nat} {gd : Option (List Code)} {cn : Str} {cs : Scope} {a : Addr} {ccd : Value} {cl : List (Str × Addr)} {outer : List Env} {A₀ : Around} {base h₀ : Heap} {L : Addr} {m : Str → Option Value} {s : Shared} {Q E : Value → Shared → Prop} {Led : List (Addr × Obj)} {g : Obj → List (Addr × Obj)} {i : Nat} {ti t1 : Tok}
    (h : ReadOk w mean mg mb x l r rest) (hB : Below A₀ base outer h₀) (F : Fr h₀ L s.heap m) (hK : (hd.heap_39 w.params).In h₀) (N : News h₀ L s.heap Led) (hT : Top topProg LooseL mean mg mb h₀) (hk : cs.kind = .function) (hc : CodeHd h₀ 176 172) (U : UpdF l (W.listOf [Value.int (i : Int) ti].toArray 0) Led g)
    (hin : ∀ p ∈ rest, p ∈ Led ∧ p.1 ≠ l) (hdp : dp + 1 < recursionLimit) (hun : un + 40 < cLine) (hi : i ≤ x.cps.size)
    (hret : ∀ (t ti' : Tok) (h' : Heap) (tk' : Nat), Fr h₀ L h' m → News h₀ L h' (g (W.listOf [Value.int ((i : Int) + ((chAt x i).length : Int)) ti'].toArray 0)) → Q (.str (chAt x i) t) { s with heap := h', toks := tk' }) :
      wpAny (model Challenge.rw_pe0179_01.row.prog w) (ktrTop dp un gd cn cs L a ccd cl outer) (call (.ref r) [.int 1 t1]) Q E s := by
  obtain ⟨pre, post, rfl, hg, n1, n2⟩ := U.split
  refine h _ _ _ _ _ _ _ _ _ _ _ _ _ _ _ _ _ (pre ++ post) i ti t1 hB F hK (fun p hp => N p ?_) hT hk hc (fun p hp => ?_) hdp hun (fun p hp => ?_) hi (fun t ti' h' tk' F' N' => hret t ti' h' tk' F' (fun p hp => N' p ?_))
  · simp only [List.mem_cons, List.mem_append] at hp ⊢; rcases hp with h | h | h <;> simp [h]
  · have q := (hin p hp).1
    have q2 := (hin p hp).2
    simp only [List.mem_cons, List.mem_append] at q ⊢
    rcases q with h | h | h
    · exact .inl h
    · exact absurd (by rw [h]) q2
    · exact .inr h
  · rcases List.mem_append.mp hp with h | h
    · exact n1 p h
    · exact n2 p h
  · rw [hg] at hp
    simp only [List.mem_cons, List.mem_append] at hp ⊢; rcases hp with h | h | h <;> simp [h]
theorem fn_method1 {prog : Program} {w : World} {A : Around} {E : Value → Shared → Prop} {s : Shared} {h₀ : Heap} {L : Addr} {news : List (Addr × Obj)} {pl : Sem Bool} {f d : Addr} {fd : FuncData} {v : Value} {k : Int} {td : Tok} {n : Nat} {Q : Value × List Value → Shared → Prop} (N : News h₀ L s.heap news) (hf : (f, (⟨.type "function", some d, .func fd, #[]⟩ : Obj)) ∈ news) (hd : (d, dictOf [⟨k, .str (Str.ofString "read") td, v⟩] n) ∈ news) (hv : handedIn v = true)
    (h : Q (v, []) { s with toks := s.toks + 1 }) : wpAny (model prog w) A (getMethod (.ref f) (Str.ofString "read") pl) Q E s := fn_method N hf hd (by rfl) hv h
theorem in_of {rest news Led : List (Addr × Obj)} {l : Addr} (h : ∀ p ∈ rest, p ∈ news ∧ p.1 ≠ l) (hs : ∀ p ∈ news, p ∈ Led) : ∀ p ∈ rest, p ∈ Led ∧ p.1 ≠ l := fun p hp => ⟨hs p (h p hp).1, (h p hp).2⟩
structure LxT where
  q : Nat
  dq : Nat
  pb : Nat
  d : Nat
  f : Nat
  l : Nat
  r : Nat
  t0 : Tok
  t1 : Tok
  t2 : Tok
  t3 : Tok
  t4 : Tok
  t5 : Tok
  td : Tok
  ti : Tok
  n : Int
  i : Nat
  fd : FuncData
  rf : FuncData
noncomputable abbrev LxT.objs (P : Params) (X : LxT) : List (Addr × Obj) :=
  [(X.dq, dictOf [⟨PyData.keyHash P (Str.ofString "lineno"), .str (Str.ofString "lineno") X.t0, .int X.n X.t1⟩, ⟨PyData.keyHash P (Str.ofString "instream"), .str (Str.ofString "instream") X.t2, .ref X.f⟩,
     ⟨PyData.keyHash P (Str.ofString "whitespace"), .str (Str.ofString "whitespace") X.t3, .str (Str.ofString "\n\t\r ") X.t4⟩, ⟨PyData.keyHash P (Str.ofString "pushback"), .str (Str.ofString "pushback") X.t5, .ref X.pb⟩] 4),
   (X.l, W.listOf [Value.int (X.i : Int) X.ti].toArray 0), (X.q, instObj 142 X.dq), (X.pb, W.listOf [].toArray 0), (X.d, dictOf [⟨PyData.keyHash P (Str.ofString "read"), .str (Str.ofString "read") X.td, .ref X.r⟩] 1), (X.f, ⟨.type "function", some X.d, .func X.fd, #[]⟩), (X.r, ⟨.type "function", none, .func X.rf, #[]⟩)]
noncomputable def LxT.Apart (X : LxT) (news : List (Addr × Obj)) : Prop :=
  (X.l < X.r ∧ X.r < X.f ∧ X.f < X.d ∧ X.d < X.dq ∧ X.dq < X.q ∧ X.q < X.pb) ∧ (∀ p ∈ news, p.1 ≠ X.dq) ∧ (∀ p ∈ news, p.1 ≠ X.l)
noncomputable def nlAt (x : Str) (i : Nat) : Int := if chAt x i = Str.ofString "\n" then 1 else 0
noncomputable abbrev RcClaim (w : World) (mean : ExcName → Option Value) (mg mb : Str → Option Value) (x : Str) (X : LxT) (rest : List (Addr × Obj)) : Prop :=
  ∀ (dp un : Nat) (gd : Option (List Code)) (cn : Str) (cs : Scope) (a : Addr) (ccd : Value) (cl : List (Str × Addr)) (outer : List Env) (A₀ : Around) (base h₀ : Heap) (L : Addr) (m : Str → Option Value) (s : Shared) (R : Result → Shared → Prop) (news : List (Addr × Obj)),
    Below A₀ base outer h₀ → Fr h₀ L s.heap m → (hd.heap_39 w.params).In h₀ → News h₀ L s.heap (X.objs w.params ++ news) → Top topProg LooseL mean mg mb h₀ → cs.kind = .function → CodeHd h₀ 176 172 →
    (∀ p ∈ rest, p ∈ news) → dp + 3 < recursionLimit → un + 80 < cLine → X.Apart news → X.i ≤ x.cps.size → ReadOk w mean mg mb x X.l X.r rest →
    (∀ (t t1' ti' : Tok) (h' : Heap) (tk' : Nat), Fr h₀ L h' m → News h₀ L h' (({ X with n := X.n + nlAt x X.i, t1 := t1', i := X.i + (chAt x X.i).length, ti := ti' } : LxT).objs w.params ++ news) → R (.ok (.ret (.str (chAt x X.i) t))) { s with heap := h', toks := tk' }) →
      codeAny (model Challenge.rw_pe0179_01.row.prog w) (ktrTop dp un gd cn cs L a ccd cl outer) (.call (.ref 125) ⟨[.ref X.q], []⟩) R s
section
local macro_rules | `(tactic| k_all) => `(tactic| assumption)
theorem rc_claim (w : World) (mean : ExcName → Option Value) (mg mb : Str → Option Value) (x : Str) (X : LxT) (rest : List (Addr × Obj)) : RcClaim w mean mg mb x X rest := by
  dsimp only [RcClaim]
  k_fill
  intro dp un gd cn cs a ccd cl outer A₀ base h₀ L m s R news hB hF hK hN hT hk hch hin hdp hun hap hi hrd hret
  obtain ⟨hap1, hap2, hap3⟩ := hap
  have hin2 : ∀ p ∈ rest, p ∈ news ∧ p.1 ≠ X.l := fun p hp => ⟨hin p hp, hap3 p (hin p hp)⟩
  dsimp only [LxT.objs, List.cons_append, List.nil_append] at hN
  have kdm := kdMark
  k_with_none
  k_with "!getMethod ref" => (k_here; (with_reducible show wpAny _ _ (getMethod (Value.ref _) (Str.ofString "read") _) _ _ _); k_dflt (refine' fn_method1 ?k1 ?k2 ?k3 ?k5 ?_; (case k1 => k_asm); (case k2 => k_mem); (case k3 => k_mem); (case k5 => rfl); k_whole; (try dsimp only)))
  k_with "!call ref" => (k_here; k_dflt (refine' read_use (by assumption) ?k1 ?k2 ?k3 ?k4 ?k5 ?k6 ?k7 ?k8 ?k9 ?k10 ?k11 ?k12 ?_; (case k1 => k_asm); (case k2 => k_asm); (case k3 => k_asm); (case k4 => k_asm); (case k5 => k_asm); (case k6 => rfl); (case k7 => first | assumption | exact CodeHd.keeps (by assumption) (Fr.keep (by assumption))); (case k8 => k_updF); (case k9 => exact in_of (by assumption) (by intro p9 hp9; simp only [List.mem_cons]; simp [hp9])); (case k10 => ((try dsimp only [ktrTop, Around.deeper, Around.mark, Around.in1, Around.under]); omega)); (case k11 => ((try dsimp only [ktrTop, Around.deeper, Around.mark, Around.in1, Around.under]); omega)); (case k12 => assumption); k_whole; intro _ _ _ _ _ _))
  k_dflt cell_enter
  k_steps
  · rename (chAt x X.i == Str.ofString "\n") = true => hnl
    rename_i kF kN _ _
    have e1 : nlAt x X.i = 1 := by unfold nlAt; rw [if_pos (by simpa using hnl)]
    refine' hret _ _ _ _ _ kF ?hN
    case hN =>
      dsimp only [LxT.objs, List.cons_append, List.nil_append]
      rw [e1, Int.natCast_add]
      exact kN
  · rename (chAt x X.i == Str.ofString "\n") = false => hnl
    rename_i kF kN _ _
    have e1 : nlAt x X.i = 0 := by unfold nlAt; rw [if_neg (by simpa using hnl)]
    refine' hret _ _ _ _ _ kF ?hN
    case hN =>
      dsimp only [LxT.objs, List.cons_append, List.nil_append]
      rw [e1, Int.natCast_add, Int.add_zero]
      exact kN
end
end Mine
end
section
open PySem PySem.W PyProof.Rows
namespace Mine
theorem fresh_T19 : True := by
  k_with_none
  w_top off
  trivial
noncomputable def isWs (c : Nat) : Bool := c == 10 || c == 13
noncomputable def nl (c : Nat) : Nat := if c = 10 then 1 else 0
noncomputable def wordL : List Nat → List Nat × List Nat × Nat
  | [] => ([], [], 0)
  | c :: r => if isWs c then ([], r, nl c) else (c :: (wordL r).1, (wordL r).2.1, (wordL r).2.2)
noncomputable def tokL : List Nat → List Nat × List Nat × Nat
  | [] => ([], [], 0)
  | c :: r => if isWs c then ((tokL r).1, (tokL r).2.1, nl c + (tokL r).2.2) else (c :: (wordL r).1, (wordL r).2.1, (wordL r).2.2)
noncomputable def Plain3 (x : Str) : Prop := ∀ c ∈ x.cps.toList, c = 46 ∨ c = 10 ∨ c = 13
theorem drop_cons {x : Str} {i c : Nat} {r : List Nat} (h : x.cps.toList.drop i = c :: r) : chAt x i = ⟨#[c]⟩ ∧ i < x.cps.size ∧ x.cps.toList.drop (i + 1) = r := by
  have h1 : x.cps.toList[i]? = some c := by
    have := congrArg (fun l => l[0]?) h
    simpa using this
  have h2 : x.cps[i]? = some c := by rw [← Array.getElem?_toList]; exact h1
  have h3 : i < x.cps.size := by
    rcases Nat.lt_or_ge i x.cps.size with g | g
    · exact g
    · rw [Array.getElem?_eq_none g] at h2; cases h2
  refine ⟨?_, h3, ?_⟩
  · unfold chAt; rw [h2]
  · have := congrArg List.tail h
    simpa [List.tail_drop] using this
theorem drop_nil {x : Str} {i : Nat} (h : x.cps.toList.drop i = []) (hi : i ≤ x.cps.size) : chAt x i = Str.empty ∧ i = x.cps.size := by
  have h1 : x.cps.size ≤ i := by simpa using h
  refine ⟨?_, Nat.le_antisymm hi h1⟩
  unfold chAt; rw [Array.getElem?_eq_none h1]
theorem nlAt_eq {x : Str} {i c : Nat} (h : chAt x i = ⟨#[c]⟩) : nlAt x i = (nl c : Int) := by
  unfold nlAt nl
  rw [h]
  have e : (Str.ofString "\n") = ⟨#[10]⟩ := by decide +kernel
  rw [e]
  by_cases q : c = 10
  · subst q; simp
  · simp [q]
theorem fn125 {P : Params} {h : Heap} (X : (hd.heap_39 P).In h) : ∃ og fd, h.get? 125 = some og ∧ og.data = .func fd := by
  exact ⟨_, _, X 125 _ rfl, rfl⟩
theorem cit_iterN {prog : Program} {w : World} {A : Around} {E : Value → Shared → Prop} {s : Shared} {h₀ : Heap} {L : Addr} {news : List (Addr × Obj)} {c q : Addr} {t : Tok} {Q : Value → Shared → Prop} (N : News h₀ L s.heap news) (hc : (c, citObj q t) ∈ news) (h : Q (.ref c) s) : wpAny (model prog w) A (pyIter (.ref c)) Q E s := cit_iter (N _ hc).1 rfl h
noncomputable def ltN' (a b : Nat) : Prop := a < b
theorem lx_next {w : World} {mean : ExcName → Option Value} {mg mb : Str → Option Value} {x : Str} {X : LxT} {rest : List (Addr × Obj)} {dp un : Nat} {gd : Option (List Code)} {cn : Str} {cs : Scope} {a : Addr} {ccd : Value} {cl : List (Str × Addr)} {outer : List Env} {A₀ : Around} {base h₀ : Heap} {L : Addr} {m : Str → Option Value} {s : Shared} {Q : Option Value → Shared → Prop} {E : Value → Shared → Prop} {news : List (Addr × Obj)} {c q : Addr} {tq : Tok}
    (hB : Below A₀ base outer h₀) (F : Fr h₀ L s.heap m) (hK : (hd.heap_39 w.params).In h₀) (N : News h₀ L s.heap (X.objs w.params ++ (c, citObj q tq) :: (q, methodObj (.ref 125) (.ref X.q)) :: news)) (hT : Top topProg LooseL mean mg mb h₀) (hk : cs.kind = .function) (hc : CodeHd h₀ 176 172)
    (hin : ∀ p ∈ rest, p ∈ news) (hdp : dp + 3 < recursionLimit) (hun : un + 81 < cLine) (hap : X.Apart ((c, citObj q tq) :: (q, methodObj (.ref 125) (.ref X.q)) :: news)) (hc1 : X.pb < c) (hc2 : ∀ p ∈ (q, methodObj (.ref 125) (.ref X.q)) :: news, p.1 ≠ c) (hi : X.i ≤ x.cps.size) (hrd : ReadOk w mean mg mb x X.l X.r rest)
    (h1 : ∀ c0 r, x.cps.toList.drop X.i = c0 :: r → ∀ (t t1' ti' : Tok) (h' : Heap) (tk' : Nat), Fr h₀ L h' m → News h₀ L h' (({ X with n := X.n + (nl c0 : Int), t1 := t1', i := X.i + 1, ti := ti' } : LxT).objs w.params ++ (c, citObj q tq) :: (q, methodObj (.ref 125) (.ref X.q)) :: news) → Q (some (.str ⟨#[c0]⟩ t)) { s with heap := h', toks := tk' })
    (h2 : x.cps.toList.drop X.i = [] → ∀ (t1' ti' : Tok) (h' : Heap) (tk' : Nat), Fr h₀ L h' m → News h₀ L h' (({ X with t1 := t1', ti := ti' } : LxT).objs w.params ++ (c, citEnd) :: (q, methodObj (.ref 125) (.ref X.q)) :: news) → Q none { s with heap := h', toks := tk' }) :
    wpAny (model Challenge.rw_pe0179_01.row.prog w) (ktrTop dp un gd cn cs L a ccd cl outer) (pyNext (.ref c)) Q E s := by
  obtain ⟨og, fd, hg, hd'⟩ := fn125 hK
  refine cit_next (q := q) (t := tq) (self := .ref X.q) rfl F N (by simp) (by simp) hg hd' ?_
  refine rc_claim w mean mg mb x X rest dp (un + 1) gd cn cs a ccd cl outer A₀ base h₀ L m s _ ((c, citObj q tq) :: (q, methodObj (.ref 125) (.ref X.q)) :: news) hB F hK N hT hk hc (fun p hp => by simp [hin p hp]) hdp (by omega) hap hi hrd ?_
  intro t t1' ti' h' tk' F' N'
  refine ⟨⟨chAt x X.i, t, m, _, _, rfl, F', N', ?_, hc2, ?_, ?_⟩, (N' _ (List.mem_append_right _ (List.mem_cons_of_mem _ (List.mem_cons_self ..)))).1⟩
  · intro p hp
    obtain ⟨o1, -, -⟩ := hap
    have hc1' : ltN' X.pb c := hc1
    unfold ltN' at hc1'
    simp only [LxT.objs, List.mem_cons, List.not_mem_nil, or_false] at hp
    rcases hp with rfl | rfl | rfl | rfl | rfl | rfl | rfl <;> (refine neN ?_; dsimp only; omega)
  · intro hne
    cases e : x.cps.toList.drop X.i with
    | nil => exact absurd (drop_nil e hi).1 hne
    | cons c0 r =>
      obtain ⟨e1, e2, e3⟩ := drop_cons e
      have q1 := nlAt_eq e1
      rw [q1, e1] at N'
      rw [e1]
      exact h1 c0 r e t t1' ti' h' tk' F' N'
  · intro he h3 F3 N3
    cases e : x.cps.toList.drop X.i with
    | nil =>
      obtain ⟨e1, e2⟩ := drop_nil e hi
      have q1 : nlAt x X.i = 0 := by unfold nlAt; rw [e1, if_neg (by decide +kernel)]
      rw [q1, e1] at N3
      rw [Int.add_zero] at N3
      exact h2 e t1' ti' h3 tk' F3 N3
    | cons c0 r =>
      obtain ⟨e1, e2, e3⟩ := drop_cons e
      rw [e1] at he
      exact absurd (congrArg (fun z : Str => z.cps.size) he) (by show ¬ ((1 : Nat) = 0); decide)
end Mine
end
section
open PySem
namespace Mine
theorem fresh_P2 : True := by
  k_with_none
  w_top off
  trivial
/-- the words of a text with the number of the row behind each, and the number of rows -/
noncomputable def wordsL : Nat → List Nat → Int → List (Int × Str) × Int
  | 0, _, n => ([], n)
  | k + 1, cs, n => if (tokL cs).1 = [] then ([], n + ((tokL cs).2.2 : Int)) else ((n + ((tokL cs).2.2 : Int), ⟨(tokL cs).1.toArray⟩) :: (wordsL k (tokL cs).2.1 (n + ((tokL cs).2.2 : Int))).1, (wordsL k (tokL cs).2.1 (n + ((tokL cs).2.2 : Int))).2)
theorem wordL_suffix : ∀ cs : List Nat, (wordL cs).2.1 <:+ cs
  | [] => by simp [wordL]
  | c :: r => by
    unfold wordL
    split
    · exact List.suffix_cons c r
    · exact (wordL_suffix r).trans (List.suffix_cons c r)
theorem tokL_suffix : ∀ cs : List Nat, (tokL cs).2.1 <:+ cs
  | [] => by simp [tokL]
  | c :: r => by
    unfold tokL
    split
    · exact (tokL_suffix r).trans (List.suffix_cons c r)
    · exact (wordL_suffix r).trans (List.suffix_cons c r)
theorem tokL_less : ∀ cs : List Nat, (tokL cs).1 ≠ [] → (tokL cs).2.1.length < cs.length
  | [], h => by simp [tokL] at h
  | c :: r, h => by
    unfold tokL at h ⊢
    split
    · rename_i q
      rw [if_pos q] at h
      have := tokL_less r h
      simp only [List.length_cons]; omega
    · have := (wordL_suffix r).length_le
      simp only [List.length_cons]; omega
theorem suffix_drop {l r : List Nat} (h : r <:+ l) : l.drop (l.length - r.length) = r := by
  obtain ⟨p, rfl⟩ := h
  simp
end Mine
end
section
open PySem PySem.W PyProof.Rows
namespace Mine
theorem fresh_T18 : True := by
  k_with_none
  w_top off
  trivial
noncomputable def LxLoop (P : Params) (g : Heap) (L' : Addr) (s₀ : Shared) (X : LxT) (c q : Addr) (co : Obj) (news : List (Addr × Obj)) (acc : List Nat) (n : Int) (i : Nat) (s' : Shared) : Prop :=
  ∃ (h' : Heap) (tk' : Nat) (m' : Str → Option Value) (t1' ti' tt : Tok), s' = { s₀ with heap := h', toks := tk' } ∧
    Fr g L' h' (fun y => if y = Str.ofString "token" then some (.str ⟨acc.toArray⟩ tt) else if y = Str.ofString "fiter" then some (.ref c) else if y = Str.ofString "self" then some (.ref X.q) else m' y) ∧
    News g L' h' (({ X with n := n, t1 := t1', i := i, ti := ti' } : LxT).objs P ++ (c, co) :: (q, methodObj (.ref 125) (.ref X.q)) :: news)
theorem lx_intro {P : Params} {g h' : Heap} {L' : Addr} {s₀ : Shared} {X : LxT} {c q : Addr} {co : Obj} {news : List (Addr × Obj)} {acc : List Nat} {n n' : Int} {i i' : Nat} {tk' : Nat} {M : Str → Option Value} {t1' ti' tt : Tok} {y : Str} (hy : y = ⟨acc.toArray⟩) (hn : n' = n) (hi : i' = i)
    (F : Fr g L' h' M) (N : News g L' h' (({ X with n := n', t1 := t1', i := i', ti := ti' } : LxT).objs P ++ (c, co) :: (q, methodObj (.ref 125) (.ref X.q)) :: news))
    (e1 : M (Str.ofString "token") = some (.str y tt)) (e2 : M (Str.ofString "fiter") = some (.ref c)) (e3 : M (Str.ofString "self") = some (.ref X.q)) : LxLoop P g L' s₀ X c q co news acc n i { s₀ with heap := h', toks := tk' } := by
  subst hy hn hi
  refine ⟨h', tk', M, t1', ti', tt, rfl, ?_, N⟩
  have e : M = (fun y => if y = Str.ofString "token" then some (.str ⟨acc.toArray⟩ tt) else if y = Str.ofString "fiter" then some (.ref c) else if y = Str.ofString "self" then some (.ref X.q) else M y) := by
    funext y
    by_cases a : y = Str.ofString "token"
    · rw [if_pos a, a, e1]
    · rw [if_neg a]
      by_cases b : y = Str.ofString "fiter"
      · rw [if_pos b, b, e2]
      · rw [if_neg b]
        by_cases d : y = Str.ofString "self"
        · rw [if_pos d, d, e3]
        · rw [if_neg d]
  rw [← e]; exact F
theorem lx_elim {P : Params} {g : Heap} {L' : Addr} {s₀ : Shared} {X : LxT} {c q : Addr} {co : Obj} {news : List (Addr × Obj)} {acc : List Nat} {n : Int} {i : Nat} {C : Shared → Prop} {s' : Shared} (h : LxLoop P g L' s₀ X c q co news acc n i s')
    (k : ∀ (h' : Heap) (tk' : Nat) (m' : Str → Option Value) (t1' ti' tt : Tok), Fr g L' h' (fun y => if y = Str.ofString "token" then some (.str ⟨acc.toArray⟩ tt) else if y = Str.ofString "fiter" then some (.ref c) else if y = Str.ofString "self" then some (.ref X.q) else m' y) →
      News g L' h' (({ X with n := n, t1 := t1', i := i, ti := ti' } : LxT).objs P ++ (c, co) :: (q, methodObj (.ref 125) (.ref X.q)) :: news) → C { s₀ with heap := h', toks := tk' }) : C s' := by
  obtain ⟨h', tk', m', t1', ti', tt, rfl, F, N⟩ := h
  exact k h' tk' m' t1' ti' tt F N
noncomputable def Again (I : Nat → Shared → Prop) (n : Nat) (s : Shared) : Prop := ∃ m, m < n ∧ I m s
theorem codeAny_forLoopA {prog : Program} {w : World} {A : Around} {s : Shared} {R : Result → Shared → Prop} {target it body orelse env} (I : Nat → Shared → Prop)
    (turn : ∀ n s, I n s → wpAny (model prog w) A (pyNext it) (fun r s₁ => match r with
      | none => wpAny (model prog w) A (execs orelse env) (fun f s₃ => R (.ok f) s₃) (notedBy (model prog w) A env fun e s' => R (.error e) s') s₁
      | some v => wpAny (model prog w) A (assign target env v) (fun _ s₂ => wpAny (model prog w) A (execs body env) (fun f s₃ => match f with
          | .next | .cont => Again I n s₃
          | .brk => R (.ok .next) s₃
          | .ret v => R (.ok (.ret v)) s₃) (notedBy (model prog w) A env fun e s' => R (.error e) s') s₂) (notedBy (model prog w) A env fun e s' => R (.error e) s') s₁) (notedBy (model prog w) A env fun e s' => R (.error e) s') s)
    (n : Nat) (h : I n s) (ht : ∀ v, letOwnedTupleGo target it v = pure () := by intro _; rfl) : codeAny (model prog w) A (.forLoop target it body orelse env) R s := codeAny_forLoop I turn n h ht
theorem dot_app (acc : List Nat) : (⟨acc.toArray⟩ : Str) ++ Str.ofString "." = ⟨(acc ++ [46]).toArray⟩ := by
  have e : Str.ofString "." = ⟨#[46]⟩ := by decide +kernel
  rw [e]
  show (⟨acc.toArray ++ #[46]⟩ : Str) = _
  simp
theorem gt_fin {P : Params} {h₀ h' : Heap} {L : Addr} {m : Str → Option Value} {s : Shared} {X : LxT} {news : List (Addr × Obj)} {a b : Addr × Obj} {N0 n' : Int} {I0 i' : Nat} {W y : Str} {t t1 ti : Tok} {tk' : Nat} {Q : Value → Shared → Prop}
    (hret : ∀ (t t1' ti' : Tok) (h' : Heap) (tk' : Nat), Fr h₀ L h' m → News h₀ L h' (({ X with n := N0, t1 := t1', i := I0, ti := ti' } : LxT).objs P ++ news) → Q (.str W t) { s with heap := h', toks := tk' })
    (F : Fr h₀ L h' m) (N : News h₀ L h' (({ X with n := n', t1 := t1, i := i', ti := ti } : LxT).objs P ++ a :: b :: news)) (hy : y = W) (hn : n' = N0) (hi : i' = I0) : Q (.str y t) { s with heap := h', toks := tk' } := by
  subst hy hn hi
  refine hret t t1 ti h' tk' F (fun p hp => N p ?_)
  rcases List.mem_append.mp hp with h | h
  · exact List.mem_append_left _ h
  · exact List.mem_append_right _ (List.mem_cons_of_mem _ (List.mem_cons_of_mem _ h))
noncomputable abbrev GtClaim (w : World) (mean : ExcName → Option Value) (mg mb : Str → Option Value) (x : Str) (X : LxT) (rest : List (Addr × Obj)) : Prop :=
  ∀ (dp un : Nat) (gd : Option (List Code)) (cn : Str) (cs : Scope) (a : Addr) (ccd : Value) (cl : List (Str × Addr)) (outer : List Env) (A₀ : Around) (base h₀ : Heap) (L : Addr) (m : Str → Option Value) (s : Shared) (Q E : Value → Shared → Prop) (news : List (Addr × Obj)),
    Below A₀ base outer h₀ → Fr h₀ L s.heap m → (hd.heap_39 w.params).In h₀ → News h₀ L s.heap (X.objs w.params ++ news) → Top topProg LooseL mean mg mb h₀ → cs.kind = .function → CodeHd h₀ 176 172 →
    (∀ p ∈ rest, p ∈ news) → dp + 5 < recursionLimit → un + 120 < cLine → X.Apart news → X.i ≤ x.cps.size → ReadOk w mean mg mb x X.l X.r rest → Plain3 x → x.cps.size ≤ 500 →
    (∀ (t t1' ti' : Tok) (h' : Heap) (tk' : Nat), Fr h₀ L h' m → News h₀ L h' (({ X with n := X.n + ((tokL (x.cps.toList.drop X.i)).2.2 : Int), t1 := t1', i := x.cps.size - (tokL (x.cps.toList.drop X.i)).2.1.length, ti := ti' } : LxT).objs w.params ++ news) →
      Q (.str ⟨(tokL (x.cps.toList.drop X.i)).1.toArray⟩ t) { s with heap := h', toks := tk' }) →
      wpAny (model Challenge.rw_pe0179_01.row.prog w) (ktrTop dp un gd cn cs L a ccd cl outer) (call (.ref 132) [.ref X.q]) Q E s
section
local macro_rules | `(tactic| k_all) => `(tactic| assumption)
theorem gt_claim (w : World) (mean : ExcName → Option Value) (mg mb : Str → Option Value) (x : Str) (X : LxT) (rest : List (Addr × Obj)) : GtClaim w mean mg mb x X rest := by
  dsimp only [GtClaim]
  k_fill
  intro dp un gd cn cs a ccd cl outer A₀ base h₀ L m s Q E news hB hF hK hN hT hk hch hin hdp hun hap hi hrd hpl hx5 hret
  obtain ⟨hap1, hap2, hap3⟩ := hap
  dsimp only [LxT.objs, List.cons_append, List.nil_append] at hN
  have kdm := kdMark
  k_with_none
  k_with "!ite" => (first | (refine ite_pos (by decide +kernel) ?_) | (refine ite_neg (by decide +kernel) ?_))
  k_with "!call builtin:iter" => (k_here; k_dflt (refine' cit_new ?k1 ?k2 ?k3 ?_; (case k1 => k_asm); (case k2 => k_asm); (case k3 => k_mem); k_whole); intro c' h' l1 F' N'; (try k_lt l1); (revert c' h'; intros))
  k_with "!inplaceOp Add str str" => (k_here; k_dflt (refine iadd_str (hsz := by assumption) ?_); intro _ _)
  k_with "!pyIter ref" => (k_here; k_dflt (refine' cit_iterN ?k1 ?k2 ?_; (case k1 => k_asm); (case k2 => k_mem); k_whole))
  k_with "!exec For Name Name cons nil" => (k_here; k_dflt (refine wpAny_For ?_))
  refine wpAny_call ?_
  k_dflt cell_enter
  k_steps
  rename_i g L' h1 FG B K T tk1 tk2 h2 q h3 lq c h4 lc h5 F N
  have hch2 : CodeHd g 176 172 := hch.keeps (fun b o e => FG.keep b o e)
  have hapL : ∀ co, X.Apart ((c, co) :: (q, methodObj (.ref 125) (.ref X.q)) :: news) := fun co => ⟨hap1, fun p hp => by
      rcases List.mem_cons.mp hp with rfl | hp
      · exact Nat.ne_of_gt lc.2.1
      · rcases List.mem_cons.mp hp with rfl | hp
        · exact Nat.ne_of_gt lq.1
        · exact hap2 p hp, fun p hp => by
      rcases List.mem_cons.mp hp with rfl | hp
      · exact Nat.ne_of_gt lc.2.2.1
      · rcases List.mem_cons.mp hp with rfl | hp
        · exact Nat.ne_of_gt lq.2.1
        · exact hap3 p hp⟩
  have hcL : ∀ p ∈ (q, methodObj (.ref 125) (.ref X.q)) :: news, p.1 ≠ c := fun p hp => by
    rcases List.mem_cons.mp hp with rfl | hp
    · exact Nat.ne_of_lt lc.1
    · exact Nat.ne_of_lt (tb_ltOf lc.2.2.2.2.2.2.2.2 p hp)
  have hpbL : X.pb < c := lc.2.2.2.2.1
  generalize hTk : tokL (x.cps.toList.drop X.i) = tk9' at hret
  refine codeAny_forLoopA (fun k s' => (∃ i d, i ≤ x.cps.size ∧ k = x.cps.size - i + 2 ∧ tk9' = ((tokL (x.cps.toList.drop i)).1, (tokL (x.cps.toList.drop i)).2.1, d + (tokL (x.cps.toList.drop i)).2.2) ∧
      LxLoop w.params g L' s X c q (citObj q (tk2 + 1 + 1 + 1)) news [] (X.n + (d : Int)) i s') ∨ (k = 1 ∧ LxLoop w.params g L' s X c q citEnd news tk9'.1 (X.n + (tk9'.2.2 : Int)) (x.cps.size - tk9'.2.1.length) s')) ?turn (x.cps.size - X.i + 2) ?init
  case init =>
    refine .inl ⟨X.i, 0, hi, rfl, ?_, ?_⟩
    · rw [← hTk]; simp
    · refine lx_intro (y := Str.ofString "") (n' := X.n) (t1' := X.t1) (ti' := X.ti) (by decide +kernel) (by simp) rfl F (fun p hp => N p ?_) rfl rfl rfl
      dsimp only [LxT.objs, List.cons_append, List.nil_append] at hp
      refine sbAt ?_ hp
      walk_at "sub"
  case turn =>
    rintro k s' hX9
    refine cps ?_
    intro C9 hC9
    rcases hX9 with ⟨i, d, hi', rfl, hd', hLx⟩ | ⟨rfl, hLx⟩ <;> refine hC9 ?_ <;> clear hC9 C9 <;> refine lx_elim hLx ?_ <;> clear hLx s' <;> rintro h' tk' m' t1' ti' tt F' N'
    · k_dflt (refine' lx_next (X := { X with n := X.n + (d : Int), t1 := t1', i := i, ti := ti' }) (rest := rest) ?k1 F' ?k3 N' ?k5 ?k6 ?k7 ?k8 ?k9 ?k10 ?k11 ?k12 ?k13 hi' hrd ?k14 ?k15)
      case k1 => k_asm
      case k3 => k_asm
      case k5 => k_asm
      case k6 => exact rfl
      case k7 => assumption
      case k8 => assumption
      case k9 => (try dsimp only [ktrTop, Around.deeper, Around.mark, Around.in1, Around.under]); omega
      case k10 => (try dsimp only [ktrTop, Around.deeper, Around.mark, Around.in1, Around.under]); omega
      case k11 => exact hapL _
      case k12 => exact hpbL
      case k13 => exact hcL
      case k14 =>
        intro c0 r hdr t9 t1 ti9 h9 tk9 F9 N9
        have hc0 : c0 = 46 ∨ c0 = 10 ∨ c0 = 13 := hpl c0 (List.mem_of_mem_drop (i := i) (by rw [hdr]; simp))
        clear F N F' N'
        dsimp only [LxT.objs, List.cons_append, List.nil_append] at N9
        dsimp only
        replace hdr : x.cps.toList.drop i = c0 :: r := hdr
        obtain ⟨-, hlt, hdr1⟩ := drop_cons hdr
        rcases hc0 with rfl | rfl | rfl
        · k_steps
          rename Fr g L' _ _ => kF
          rename News g L' _ _ => kN
          have hd2 : tk9' = (46 :: (wordL (x.cps.toList.drop (i + 1))).1, (wordL (x.cps.toList.drop (i + 1))).2.1, d + (wordL (x.cps.toList.drop (i + 1))).2.2) := by
            rw [hd', hdr, hdr1]; rfl
          clear hd' hdr hdr1
          refine codeAny_forLoopA (fun k s' => ∃ j e acc, j ≤ x.cps.size ∧ acc.length ≤ j ∧ k = x.cps.size - j + 2 ∧ tk9' = (acc ++ (wordL (x.cps.toList.drop j)).1, (wordL (x.cps.toList.drop j)).2.1, e + (wordL (x.cps.toList.drop j)).2.2) ∧
            LxLoop w.params g L' s X c q (citObj q (tk2 + 1 + 1 + 1)) news acc (X.n + (e : Int)) j s') ?turn2 (x.cps.size - (i + 1) + 2) ?init2
          case init2 =>
            refine ⟨i + 1, d, [46], by omega, by simp, rfl, hd2, ?_⟩
            exact lx_intro (n' := X.n + (d : Int) + (nl 46 : Int)) (i' := i + 1) (t1' := t1) (ti' := ti9) (by rfl) (by simp [nl]) rfl kF kN rfl rfl rfl
          case turn2 =>
            clear kF kN
            rintro k s' hX9
            refine cps ?_
            intro C9 hC9
            obtain ⟨j, e, acc, hj, hacc, rfl, hd3, hLx⟩ := hX9
            refine hC9 ?_
            clear hC9 C9
            refine lx_elim hLx ?_
            clear hLx s'
            rintro h' tk' m' t1' ti' tt F' N'
            k_dflt (refine' lx_next (X := { X with n := X.n + (e : Int), t1 := t1', i := j, ti := ti' }) (rest := rest) ?j1 F' ?j3 N' ?j5 ?j6 ?j7 ?j8 ?j9 ?j10 ?j11 ?j12 ?j13 hj hrd ?j14 ?j15)
            case j1 => k_asm
            case j3 => k_asm
            case j5 => k_asm
            case j6 => exact rfl
            case j7 => assumption
            case j8 => assumption
            case j9 => (try dsimp only [ktrTop, Around.deeper, Around.mark, Around.in1, Around.under]); omega
            case j10 => (try dsimp only [ktrTop, Around.deeper, Around.mark, Around.in1, Around.under]); omega
            case j11 => exact hapL _
            case j12 => exact hpbL
            case j13 => exact hcL
            case j14 =>
              intro c0 r hdr t9 t1 ti9 h9 tk9 F9 N9
              have hc0 : c0 = 46 ∨ c0 = 10 ∨ c0 = 13 := hpl c0 (List.mem_of_mem_drop (i := j) (by rw [hdr]; simp))
              clear F' N'
              replace hdr : x.cps.toList.drop j = c0 :: r := hdr
              obtain ⟨-, hlt, hdr1⟩ := drop_cons hdr
              dsimp only [LxT.objs, List.cons_append, List.nil_append] at N9
              dsimp only
              rcases hc0 with rfl | rfl | rfl
              · have hfit : (⟨acc.toArray⟩ : Str).length + (Str.ofString ".").length ≤ sizeLine := by
                  have q1 : (⟨acc.toArray⟩ : Str).length = acc.length := by show acc.toArray.size = _; simp
                  have q2 : (Str.ofString ".").length = 1 := by decide +kernel
                  rw [q1, q2, sizeLine_eq]; omega
                k_steps
                rename Fr g L' _ _ => kF
                rename News g L' _ _ => kN
                show Again _ _ _
                refine ⟨x.cps.size - (j + 1) + 2, by omega, j + 1, e, acc ++ [46], by omega, by simp; omega, rfl, ?_, ?_⟩
                · rw [hd3, hdr, hdr1]; simp [wordL, isWs]
                · exact lx_intro (n' := X.n + (e : Int) + (nl 46 : Int)) (i' := j + 1) (t1' := t1) (ti' := ti9) (dot_app acc) (by simp [nl]) rfl kF kN rfl rfl rfl
              · k_steps
                rename Fr h₀ L _ _ => kF
                rename News h₀ L _ _ => kN
                refine gt_fin (n' := X.n + (e : Int) + (nl 10 : Int)) (i' := j + 1) (t1 := t1) (ti := ti9) hret kF kN ?_ ?_ ?_
                · rw [hd3, hdr]; simp [wordL, isWs]
                · rw [hd3, hdr]; simp [wordL, isWs, Int.add_assoc]
                · rw [hd3, hdr]; simp [wordL, isWs]; rw [← hdr1]; simp; omega
              · k_steps
                rename Fr h₀ L _ _ => kF
                rename News h₀ L _ _ => kN
                refine gt_fin (n' := X.n + (e : Int) + (nl 13 : Int)) (i' := j + 1) (t1 := t1) (ti := ti9) hret kF kN ?_ ?_ ?_
                · rw [hd3, hdr]; simp [wordL, isWs]
                · rw [hd3, hdr]; simp [wordL, isWs, Int.add_assoc]
                · rw [hd3, hdr]; simp [wordL, isWs]; rw [← hdr1]; simp; omega
            case j15 =>
              intro hdr t1 ti9 h9 tk9 F9 N9
              clear F' N'
              replace hdr : x.cps.toList.drop j = [] := hdr
              have hsz := (drop_nil hdr hj).2
              rw [hdr] at hd3
              dsimp only [LxT.objs, List.cons_append, List.nil_append] at N9
              dsimp only
              k_steps
              show Again _ _ _
              refine ⟨1, by omega, .inr ⟨rfl, ?_⟩⟩
              exact lx_intro (n' := X.n + (e : Int)) (i' := j) (t1' := t1) (ti' := ti9) (y := ⟨acc.toArray⟩) (by rw [hd3]; simp [wordL]) (by rw [hd3]; simp [wordL]) (by rw [hd3]; simpa [wordL] using hsz) F9 N9 rfl rfl rfl
        · k_steps
          rename Fr g L' _ _ => kF
          rename News g L' _ _ => kN
          show Again _ _ _
          refine ⟨x.cps.size - (i + 1) + 2, by omega, .inl ⟨i + 1, d + nl 10, by omega, rfl, ?_, ?_⟩⟩
          · rw [hd', hdr, hdr1]; simp [tokL, isWs, nl, Nat.add_assoc]
          · exact lx_intro (n' := X.n + (d : Int) + (nl 10 : Int)) (i' := i + 1) (t1' := t1) (ti' := ti9) (tt := tt) (y := ⟨[].toArray⟩) rfl (by rw [Int.natCast_add, Int.add_assoc]) rfl kF kN rfl rfl rfl
        · k_steps
          rename Fr g L' _ _ => kF
          rename News g L' _ _ => kN
          show Again _ _ _
          refine ⟨x.cps.size - (i + 1) + 2, by omega, .inl ⟨i + 1, d + nl 13, by omega, rfl, ?_, ?_⟩⟩
          · rw [hd', hdr, hdr1]; simp [tokL, isWs, nl, Nat.add_assoc]
          · exact lx_intro (n' := X.n + (d : Int) + (nl 13 : Int)) (i' := i + 1) (t1' := t1) (ti' := ti9) (tt := tt) (y := ⟨[].toArray⟩) rfl (by rw [Int.natCast_add, Int.add_assoc]) rfl kF kN rfl rfl rfl
      case k15 =>
        intro hdr t1 ti9 h9 tk9 F9 N9
        clear F N F' N'
        replace hdr : x.cps.toList.drop i = [] := hdr
        have hsz := (drop_nil hdr hi').2
        rw [hdr] at hd'
        dsimp only [LxT.objs, List.cons_append, List.nil_append] at N9
        dsimp only
        k_steps
        rename Fr h₀ L _ _ => kF
        rename News h₀ L _ _ => kN
        refine gt_fin (n' := X.n + (d : Int)) (i' := i) (t1 := t1) (ti := ti9) hret kF kN ?_ ?_ ?_
        · rw [hd']; rfl
        · rw [hd']; rfl
        · rw [hd']; exact hsz
    · refine cit_ended (c := c) rfl F' N' (by simp) ?_
      intro h9 F9 N9
      clear F N F' N'
      dsimp only [LxT.objs, List.cons_append, List.nil_append] at N9
      dsimp only
      k_steps
      rename Fr h₀ L _ _ => kF
      rename News h₀ L _ _ => kN
      exact gt_fin (n' := X.n + (tk9'.2.2 : Int)) (i' := x.cps.size - tk9'.2.1.length) (t1 := t1') (ti := ti') hret kF kN rfl rfl rfl
end
end Mine
end
section
open PySem PySem.W PyProof.Rows
namespace Mine
theorem fresh_T21 : True := by
  k_with_none
  w_top off
  trivial
noncomputable def HdI (P : Params) (g : Heap) (L' : Addr) (s₀ : Shared) (X : LxT) (wl : Addr) (own : List (Addr × Obj)) (us : List Value) (add : List (Addr × Obj)) (word : Str) (n : Int) (i : Nat) (s' : Shared) : Prop :=
  ∃ (h' : Heap) (tk' : Nat) (m' : Str → Option Value) (t1' ti' tt : Tok) (k : Nat), s' = { s₀ with heap := h', toks := tk' } ∧
    Fr g L' h' (fun y => if y = Str.ofString "word" then some (.str word tt) else if y = Str.ofString "words" then some (.ref wl) else if y = Str.ofString "machine" then some (.ref X.q) else m' y) ∧
    News g L' h' (({ X with n := n, t1 := t1', i := i, ti := ti' } : LxT).objs P ++ (wl, listOf us.toArray k) :: (add ++ own))
theorem hd_elim {P : Params} {g : Heap} {L' : Addr} {s₀ : Shared} {X : LxT} {wl : Addr} {own add : List (Addr × Obj)} {us : List Value} {word : Str} {n : Int} {i : Nat} {C : Shared → Prop} {s' : Shared} (h : HdI P g L' s₀ X wl own us add word n i s')
    (k : ∀ (h' : Heap) (tk' : Nat) (m' : Str → Option Value) (t1' ti' tt : Tok) (kk : Nat), Fr g L' h' (fun y => if y = Str.ofString "word" then some (.str word tt) else if y = Str.ofString "words" then some (.ref wl) else if y = Str.ofString "machine" then some (.ref X.q) else m' y) →
      News g L' h' (({ X with n := n, t1 := t1', i := i, ti := ti' } : LxT).objs P ++ (wl, listOf us.toArray kk) :: (add ++ own)) → C { s₀ with heap := h', toks := tk' }) : C s' := by
  obtain ⟨h', tk', m', t1', ti', tt, kk, rfl, F, N⟩ := h
  exact k h' tk' m' t1' ti' tt kk F N
theorem hd_intro {P : Params} {g h' : Heap} {L' : Addr} {s₀ : Shared} {X : LxT} {wl : Addr} {own add : List (Addr × Obj)} {us : List Value} {word y : Str} {n n' : Int} {i i' k : Nat} {tk' : Nat} {M : Str → Option Value} {t1' ti' tt : Tok} (hy : y = word) (hn : n' = n) (hi : i' = i)
    (F : Fr g L' h' M) (N : News g L' h' (({ X with n := n', t1 := t1', i := i', ti := ti' } : LxT).objs P ++ (wl, listOf us.toArray k) :: (add ++ own)))
    (e1 : M (Str.ofString "word") = some (.str y tt)) (e2 : M (Str.ofString "words") = some (.ref wl)) (e3 : M (Str.ofString "machine") = some (.ref X.q)) : HdI P g L' s₀ X wl own us add word n i { s₀ with heap := h', toks := tk' } := by
  subst hy hn hi
  refine ⟨h', tk', M, t1', ti', tt, k, rfl, ?_, N⟩
  have e : M = (fun z => if z = Str.ofString "word" then some (.str y tt) else if z = Str.ofString "words" then some (.ref wl) else if z = Str.ofString "machine" then some (.ref X.q) else M z) := by
    funext z
    by_cases a : z = Str.ofString "word"
    · rw [if_pos a, a, e1]
    · rw [if_neg a]
      by_cases b : z = Str.ofString "words"
      · rw [if_pos b, b, e2]
      · rw [if_neg b]
        by_cases d : z = Str.ofString "machine"
        · rw [if_pos d, d, e3]
        · rw [if_neg d]
  rw [← e]; exact F
theorem codeAny_whileLoopA {prog : Program} {w : World} {A : Around} {s : Shared} {R : Result → Shared → Prop} {test body orelse env} (I : Nat → Shared → Prop)
    (turn : ∀ n s, I n s →
      wpAny (model prog w) A (isTrue test env (eval test env)) (fun b s₂ =>
        if b then wpAny (model prog w) A (execs body env) (fun f s₃ => match f with
            | .next | .cont => Again I n s₃
            | .brk => R (.ok .next) s₃
            | .ret v => R (.ok (.ret v)) s₃) (notedBy (model prog w) A env fun e s' => R (.error e) s') s₂
        else wpAny (model prog w) A (execs orelse env) (fun f s₃ => R (.ok f) s₃) (notedBy (model prog w) A env fun e s' => R (.error e) s') s₂)
        (notedBy (model prog w) A env fun e s' => R (.error e) s') s)
    (n : Nat) (h : I n s) : codeAny (model prog w) A (.whileLoop test body orelse env) R s := codeAny_whileLoop I turn n h
theorem words_snoc {add : List (Addr × Obj)} {us : List Value} {ps : List (Int × Str)} (hD : DatAll add us (ps.map wordD)) {T : Addr} {k : Nat} {n : Int} {x : Str} {t1 t2 : Tok} {o : Obj} (ho : o = { cls := .type "tuple", data := .seq #[.int n t1, .str x t2] k }) :
    DatAll ((T, o) :: add) (us ++ [.ref T]) ((ps ++ [(n, x)]).map wordD) := by
  subst ho
  rw [List.map_append]
  refine (hD.mono (fun p hp => List.mem_cons_of_mem _ hp)).append (.one ?_)
  exact .tuple (List.mem_cons_self ..) (.cons (.int _ _) (.cons (.str _ _) .nil))
end Mine
end
section
open PySem PySem.W PyProof.Rows
namespace Mine
theorem fresh_T23 : True := by
  k_with_none
  w_top off
  trivial
noncomputable def wordsX (x : Str) : List (Int × Str) × Int := wordsL (x.cps.size + 1) x.cps.toList 1
theorem leN {a b : Nat} (h : a ≤ b) : a ≤ b := h
noncomputable def heardFd (P : Params) : FuncData := match (hd.heap_39 P).lookup 177 with
  | some ⟨_, _, .func fd, _⟩ => fd
  | _ => default
noncomputable def heardEnv (P : Params) (L' : Addr) : Env := envOfC (Str.ofString "_law_heard") (heardFd P).scope L' 177 (.ref 176)
noncomputable def heardWhile (P : Params) (env : Env) : Code := match (heardFd P).body with
  | .stmts l => (match l.drop 7 with
    | (.While t b o _) :: _ => .whileLoop t b o env
    | _ => .call .none ⟨[], []⟩)
  | _ => .call .none ⟨[], []⟩
section
local macro_rules | `(tactic| k_all) => `(tactic| assumption)
noncomputable abbrev heardScope : Scope := { kind := ScopeKind.function, names := [(Str.ofString "text", NameKind.cell), (Str.ofString "at", NameKind.cell), (Str.ofString "_law_read_on", NameKind.local), (Str.ofString "stream", NameKind.local)], isGenerator := false, isCoroutine := false }
noncomputable abbrev qualR : Str := qualnameIn (envOfC (Str.ofString "_law_heard") heardScope 0 177 (Value.ref 176)) (Str.ofString "_law_read_on") (Str.ofString "_law_read_on")
noncomputable def readObj (P : Params) (L' : Addr) (doc pm : Value) (cR : Addr) (ct : Value) : Obj := match (heardFd P).body with
  | .stmts l => (match l.drop 1 with
    | (.FunctionDef name params body _ _ _ scope _ _ _) :: _ => fnMade name (qualnameIn (heardEnv P L') name name) params body scope [(Str.ofString "text", L' + 1), (Str.ofString "at", L' + 1 + 1)] doc pm cR ct
    | _ => { cls := .none, data := .cell none })
  | _ => { cls := .none, data := .cell none }
theorem read_ok (w : World) (mean : ExcName → Option Value) (mg mb : Str → Option Value) (x : Str) (t : Tok) (l fr cR L' : Nat) (ro oR oA oT : Obj) (doc pm ct : Value) (vR : Array Value) (tR : Tok)
    (dA : oA.data = .cell (some (.ref l))) (dT2 : oT.data = .cell (some (.str x t))) (hl2 : x.length ≤ 500) (hR1 : oR.data = .fields vR) (hR2 : vR[1]? = some (.str qualR tR))
    (k1 : fr ≠ l) (k2 : cR ≠ l) (k3 : L' + 1 + 1 ≠ l) (k4 : L' + 1 ≠ l) (hro : ro = readObj w.params L' doc pm cR ct) : ReadOk w mean mg mb x l fr [(fr, ro), (cR, oR), (L' + 1 + 1, oA), (L' + 1, oT)] := by
  with_unfolding_all (change ro = fnMade (Str.ofString "_law_read_on") _ _ _ _ _ _ _ _ _ at hro)
  subst hro
  intro dp un gd cn cs a ccd cl outer A₀ base h₀ L m s Q E news i ti t1 hB hF hK hN hT hk hch hin hdp hun hne hi hret
  revert hK
  k_fill
  intro hK
  have kdm := kdMark
  k_with_none
  k_with "!mine_nest" => (refine' code_nest ?k1 ?k2 ?k3 ?k4 ?k5 ?kA ?kF ?kK ?k6 ?k7 ?k8 ?k9 ?kB ?_ ?c2 ?c3 ?c4 ?c5; (case kA => exact rfl); (case kF => exact rfl); (case kK => assumption); (case k1 => k_asm); (case k2 => k_asm); (case k3 => k_asm); (case k4 => k_asm); (case k5 => k_asm); (case k6 => k_mem); (case k7 => exact codeRec_news (by k_asm) (by k_mem) (by assumption) (by assumption)); (case k8 => ktr_room); (case k9 => exact BindsTo.of_eq rfl); (case c5 => decide); (case kB => exact locs rfl); (case c2 => exact rfl); (case c3 => exact rfl); (case c4 => exact rfl); k_whole; intro g' L' h' FG' F' N' B' X' T'; (try dsimp only); (try k_lift B'); (revert g' L' h'; intros); (try k_fold))
  have hN2 : News h₀ L s.heap _ := news_app hN (fun p hp => List.mem_cons_of_mem _ (hin p hp))
  simp only [List.cons_append, List.nil_append] at hN2
  clear hN
  refine wpAny_call ?_
  k_dflt (k_extra "!mine_nest")
  k_steps
  have e1 : Txt.slice x (some ([(i : Int)].getD (Int.toNat 0) 0)) (some ([(i : Int)].getD (Int.toNat 0) 0 + 1)) = chAt x i := slice_ch hi
  rename Fr h₀ L _ m => kF
  rename News h₀ L _ _ => kN
  rw [e1] at kN ⊢
  exact hret _ _ _ _ kF (drop4 kN)
theorem heard_loop (w : World) (mean : ExcName → Option Value) (mg mb : Str → Option Value) (x : Str) (hl : x.cps.size ≤ 500) (hpl : Plain3 x)
    (dp un : Nat) (gd : Option (List Code)) (cn : Str) (cs : Scope) (a : Addr) (ccd : Value) (cl : List (Str × Addr)) (outer : List Env) (base g' : Heap) (L L' : Addr) (s s0 : Shared) (R : Result → Shared → Prop)
    (X : LxT) (wl : Nat) (own rest : List (Addr × Obj))
    (B' : Below (ktrTop dp un gd cn cs L a ccd cl outer) base (envX cn cs L a ccd cl :: outer) g') (X' : (hd.heap_39 w.params).In g') (T' : Top topProg LooseL mean mg mb g') (hch2 : CodeHd g' 176 172)
    (hdp : dp + 10 < recursionLimit) (hun : un + 200 < cLine) (hRd : ReadOk w mean mg mb x X.l X.r rest) (hin : ∀ p ∈ rest, p ∈ own) (hOwn : ∀ p ∈ own, p.1 ≠ X.dq ∧ p.1 ≠ X.l ∧ p.1 ≠ wl)
    (hord : X.l < X.r ∧ X.r < X.f ∧ X.f < X.d ∧ X.d < X.dq ∧ X.dq < X.q ∧ X.q < X.pb) (lw : X.pb < wl)
    (h0 : HdI w.params g' L' s X wl own [] [] ⟨(tokL x.cps.toList).1.toArray⟩ ((1 : Int) + ((tokL x.cps.toList).2.2 : Int)) (x.cps.size - (tokL x.cps.toList).2.1.length) s0)
    (hR : ∀ (us : List Value) (add : List (Addr × Obj)) (i : Nat) (s1 : Shared), DatAll add us ((wordsX x).1.map wordD) → (∀ p ∈ add, wl < p.1) → HdI w.params g' L' s X wl own us add (Str.ofString "") (wordsX x).2 i s1 → R (.ok .next) s1) :
    codeAny (model Challenge.rw_pe0179_01.row.prog w) ((ktrTop dp un gd cn cs L a ccd cl outer).deeper (heardEnv w.params L')) (heardWhile w.params (heardEnv w.params L')) R s0 := by
  revert X'
  k_fill
  intro X'
  have kdm := kdMark
  have hl2 : x.length ≤ 500 := hl
  k_with_none
  with_unfolding_all show codeAny _ ((ktrTop dp un gd cn cs L a ccd cl outer).deeper (envOfC (Str.ofString "_law_heard") ⟨.function, _, false, false, _⟩ L' 177 (.ref 176))) (.whileLoop _ _ _ (envOfC (Str.ofString "_law_heard") ⟨.function, _, false, false, _⟩ L' 177 (.ref 176))) _ _
  generalize hW : wordsL (x.cps.size + 1) x.cps.toList 1 = W9
  refine codeAny_whileLoopA (fun k s' => ∃ cs n ps us add fuel, cs <:+ x.cps.toList ∧ k = cs.length + 1 ∧ cs.length < fuel ∧ W9 = (ps ++ (wordsL fuel cs n).1, (wordsL fuel cs n).2) ∧ ps.length + cs.length ≤ x.cps.size ∧ DatAll add us (ps.map wordD) ∧ (∀ p ∈ add, wl < p.1) ∧
      HdI w.params g' L' s X wl own us add ⟨(tokL cs).1.toArray⟩ (n + ((tokL cs).2.2 : Int)) (x.cps.size - (tokL cs).2.1.length) s') ?wt (x.cps.size + 1) ?wi
  case wi =>
    refine ⟨x.cps.toList, 1, [], [], [], x.cps.size + 1, List.suffix_refl _, by simp, by simp, ?_, by simp, .nil, by simp, h0⟩
    rw [hW]; simp
  case wt =>
    clear h0
    rintro k s' hX9
    refine cps ?_
    intro C9 hC9
    obtain ⟨cs, n, ps, us, add, fuel, hsuf, rfl, hfu, hW2, hlen, hD, hadd, hLx⟩ := hX9
    refine hC9 ?_
    clear hC9 C9
    refine hd_elim hLx ?_
    clear hLx s'
    rintro h' tk' m' t1' ti' tt kk F' N'
    have hAO : ∀ p ∈ add ++ own, p.1 ≠ wl := by
      intro p hp
      rcases List.mem_append.mp hp with hp | hp
      · exact Nat.ne_of_gt (hadd p hp)
      · exact (hOwn p hp).2.2
    have husl : us.toArray.size ≤ sizeLine := by
      have q1 := hD.length
      rw [List.length_map] at q1
      rw [List.size_toArray, q1, sizeLine_eq]; omega
    dsimp only [LxT.objs, List.cons_append, List.nil_append] at N'
    k_steps
    · rename_i hT9 tkq D9 hq lD9 hq2 FC NC
      have hne : (tokL cs).1 ≠ [] := by
        intro e
        rw [e] at hT9
        revert hT9; decide +kernel
      obtain ⟨f, rfl⟩ : ∃ f, fuel = f + 1 := ⟨fuel - 1, by omega⟩
      have hWs : wordsL (f + 1) cs n = ((n + ((tokL cs).2.2 : Int), ⟨(tokL cs).1.toArray⟩) :: (wordsL f (tokL cs).2.1 (n + ((tokL cs).2.2 : Int))).1, (wordsL f (tokL cs).2.1 (n + ((tokL cs).2.2 : Int))).2) := by
        rw [wordsL, if_neg hne]
      have hsuf2 : (tokL cs).2.1 <:+ x.cps.toList := (tokL_suffix cs).trans hsuf
      have hdrop : x.cps.toList.drop (x.cps.size - (tokL cs).2.1.length) = (tokL cs).2.1 := by
        have := suffix_drop hsuf2
        rwa [Array.length_toList] at this
      have hlt2 := tokL_less cs hne
      have hpush : us.toArray.push (Value.ref D9) = (us ++ [Value.ref D9]).toArray := by simp
      have NC2 : News g' L' hq2 ((({ X with n := n + ((tokL cs).2.2 : Int), t1 := t1', i := x.cps.size - (tokL cs).2.1.length, ti := ti' } : LxT).objs w.params) ++ (wl, W.listOf (us ++ [Value.ref D9]).toArray (kk + 1)) :: (((D9, ({ cls := .type "tuple", data := .seq #[.int (n + ((tokL cs).2.2 : Int)) t1', .str ⟨(tokL cs).1.toArray⟩ tt] } : Obj)) :: add) ++ own)) := by
        rw [← hpush]
        intro p hp
        refine NC p ?_
        dsimp only [LxT.objs, List.cons_append, List.nil_append] at hp
        refine sbAt ?_ hp
        walk_at "sub"
      clear NC
      dsimp only [List.cons_append, List.nil_append, List.append_nil]
      k_dflt (refine' gt_claim w mean mg mb x { X with n := n + ((tokL cs).2.2 : Int), t1 := t1', i := x.cps.size - (tokL cs).2.1.length, ti := ti' } _ _ _ _ _ _ _ _ _ _ _ _ _ _ _ _ _ _ _ ?f1 FC ?f3 NC2 ?f5 ?f6 hch2 ?f8 ?f9 ?f10 ?f11 ?f12 hRd hpl hl ?f15)
      case f1 => k_asm
      case f3 => k_asm
      case f5 => k_asm
      case f6 => exact rfl
      case f8 => intro p hp; have := hin p hp; (first | walk_at "subm" | simp [this])
      case f9 => (try dsimp only [ktrTop, Around.deeper, Around.mark, Around.in1, Around.under]); omega
      case f10 => (try dsimp only [ktrTop, Around.deeper, Around.mark, Around.in1, Around.under]); omega
      case f11 =>
        have hord2 := hord
        have lw1 := lw
        have hD1 := lD9.1
        have hD2 := lD9.2.1
        refine ⟨hord, fun p hp => ?_, fun p hp => ?_⟩
        · dsimp only
          simp only [List.mem_cons, List.mem_append, or_assoc] at hp
          rcases hp with rfl | rfl | hp | hp
          · exact neN (by dsimp only; omega)
          · exact neN (by dsimp only; omega)
          · exact neN (by have := ltN (hadd p hp); omega)
          · exact (hOwn p hp).1
        · dsimp only
          simp only [List.mem_cons, List.mem_append, or_assoc] at hp
          rcases hp with rfl | rfl | hp | hp
          · exact neN (by dsimp only; omega)
          · exact neN (by dsimp only; omega)
          · exact neN (by have := ltN (hadd p hp); omega)
          · exact (hOwn p hp).2.1
      case f12 => exact Nat.sub_le _ _
      case f15 =>
        intro t6 t2' ti2 h6 tk6 F6 N6
        dsimp only at N6 ⊢
        rw [hdrop] at N6 ⊢
        dsimp only [LxT.objs, List.cons_append, List.nil_append] at N6
        clear FC NC2
        k_steps
        rename Fr g' L' _ _ => FB
        rename News g' L' _ _ => NB
        show Again _ _ _
        refine ⟨(tokL cs).2.1.length + 1, by omega, (tokL cs).2.1, n + ((tokL cs).2.2 : Int), ps ++ [(n + ((tokL cs).2.2 : Int), ⟨(tokL cs).1.toArray⟩)], us ++ [.ref D9], (D9, ({ cls := .type "tuple", data := .seq #[.int (n + ((tokL cs).2.2 : Int)) t1', .str ⟨(tokL cs).1.toArray⟩ tt] } : Obj)) :: add, f, hsuf2, rfl, by omega, ?_, ?_, ?_, ?_, ?_⟩
        · rw [hW2, hWs]; simp
        · simp only [List.length_append, List.length_singleton]; omega
        · exact words_snoc hD rfl
        · refine fmC ?_ ?_
          · exact lD9.2.2.2.2.2.2.2.1
          · intro p hp
            exact hadd p hp
        · exact hd_intro (n' := n + ((tokL cs).2.2 : Int) + ((tokL (tokL cs).2.1).2.2 : Int)) (i' := x.cps.size - (tokL (tokL cs).2.1).2.1.length) (t1' := t2') (ti' := ti2) (y := ⟨(tokL (tokL cs).2.1).1.toArray⟩) rfl rfl rfl FB NB rfl rfl rfl
    · rename_i hT9
      rename Fr g' L' _ _ => kF
      rename News g' L' _ _ => kN
      have he : (tokL cs).1 = [] := by
        have q1 := eq_of_beq (by simpa [bne] using hT9 : ((⟨(tokL cs).1.toArray⟩ : Str) == Str.ofString "") = true)
        have q2 := congrArg (fun z : Str => z.cps.toList) q1
        have q3 : (Str.ofString "").cps.toList = [] := by decide +kernel
        rw [q3] at q2
        simpa using q2
      obtain ⟨f, rfl⟩ : ∃ f, fuel = f + 1 := ⟨fuel - 1, by omega⟩
      have hWs : wordsL (f + 1) cs n = ([], n + ((tokL cs).2.2 : Int)) := by
        rw [wordsL, if_pos he]
      have hX9 : wordsX x = (ps, n + ((tokL cs).2.2 : Int)) := by
        show wordsL (x.cps.size + 1) x.cps.toList 1 = _
        rw [hW, hW2, hWs]; simp
      refine hR us add (x.cps.size - (tokL cs).2.1.length) _ (by rw [hX9]; exact hD) hadd ?_
      rw [hX9]
      exact hd_intro (n' := n + ((tokL cs).2.2 : Int)) (i' := x.cps.size - (tokL cs).2.1.length) (t1' := t1') (ti' := ti') (y := ⟨(tokL cs).1.toArray⟩) (by rw [he]; decide +kernel) rfl rfl kF kN rfl rfl rfl
end
end Mine
end
section
open PySem PySem.W PyProof.Rows
namespace Mine
theorem fresh_T20 : True := by
  k_with_none
  w_top off
  trivial
noncomputable abbrev tabOf (cR cL : Addr) : Array Value := #[] ++ #[rawInt ((128 : Nat) : Int), rawInt ((4 : Nat) : Int), Value.ref cR] ++ #[rawInt ((132 : Nat) : Int), rawInt ((13 : Nat) : Int), Value.ref cL]
noncomputable abbrev qualL : Str := (envOfC (Str.ofString "_law_heard") heardScope 0 177 (Value.ref 176)).qual ++ Str.ofString "<lambda>"
structure TabOk (oR oL : Obj) : Prop where
  r : ∃ vR tR, oR.data = .fields vR ∧ vR[1]? = some (.str qualR tR)
  l : ∃ vL tL, oL.data = .fields vL ∧ vL[1]? = some (.str qualL tL)
noncomputable abbrev HClaim (w : World) (mean : ExcName → Option Value) (mg mb : Str → Option Value) (x : Str) (t : Tok) (own : List (Addr × Obj)) (G : Nat → Obj → Nat → Obj → List (Addr × Obj) → Prop) : Prop :=
  ∀ (dp un : Nat) (gd : Option (List Code)) (cn : Str) (cs : Scope) (a : Addr) (ccd : Value) (cl : List (Str × Addr)) (outer : List Env) (A₀ : Around) (base h₀ : Heap) (L : Addr) (m : Str → Option Value) (s : Shared) (Q E : Value → Shared → Prop) (news : List (Addr × Obj)),
    Below A₀ base outer h₀ → Fr h₀ L s.heap m → (hd.heap_39 w.params).In h₀ → News h₀ L s.heap (own ++ news) → Top topProg LooseL mean mg mb h₀ → cs.kind = .function → CodeHd h₀ 176 172 →
    dp + 10 < recursionLimit → un + 200 < cLine → (∀ p ∈ news, p.1 ≠ 172) →
    (∀ (D wl : Nat) (us : List Value) (k : Nat) (add : List (Addr × Obj)) (tr : Tok) (cR : Nat) (oR : Obj) (cL : Nat) (oL : Obj) (h' : Heap) (tk' : Nat), Fr h₀ L h' m →
      News h₀ L h' ((D, ({ cls := .type "tuple", data := .seq #[.ref wl, .int (wordsX x).2 tr] } : Obj)) :: (wl, listOf us.toArray k) :: (add ++ (172, tabObj (tabOf cR cL)) :: (cR, oR) :: (cL, oL) :: news)) →
      DatAll add us ((wordsX x).1.map wordD) → TabOk oR oL → AllLt wl news → 172 < wl → cR < wl → cL < wl → wl < D → (∀ p ∈ add, wl < p.1) → G cR oR cL oL news → Q (.ref D) { s with heap := h', toks := tk' }) →
      wpAny (model Challenge.rw_pe0179_01.row.prog w) (ktrTop dp un gd cn cs L a ccd cl outer) (call (.ref 177) [.str x t]) Q E s
theorem take8 {P : Prop} {g h : Heap} {L : Addr} {a b c d e f i : Addr × Obj} {r : Addr} {tab : Array Value} {l : List (Addr × Obj)} (N : News g L h (a :: b :: c :: d :: e :: f :: i :: (r, tabObj tab) :: l)) (k : ∀ tab', tab' = tab → News g L h (a :: b :: c :: d :: e :: f :: i :: (r, tabObj tab') :: l) → P) : P := k tab rfl N
theorem lx_take {P : Params} {g h : Heap} {L : Addr} {led : List (Addr × Obj)} {q dq pb d f l r : Nat} {t0 t1 t2 t3 t4 t5 td ti : Tok} {n : Int} {i : Nat} {fd rf : FuncData} {G : Prop} (N : News g L h led)
    (m1 : (dq, dictOf [⟨PyData.keyHash P (Str.ofString "lineno"), .str (Str.ofString "lineno") t0, .int n t1⟩, ⟨PyData.keyHash P (Str.ofString "instream"), .str (Str.ofString "instream") t2, .ref f⟩,
     ⟨PyData.keyHash P (Str.ofString "whitespace"), .str (Str.ofString "whitespace") t3, .str (Str.ofString "\n\t\r ") t4⟩, ⟨PyData.keyHash P (Str.ofString "pushback"), .str (Str.ofString "pushback") t5, .ref pb⟩] 4) ∈ led)
    (m2 : (l, W.listOf [Value.int (i : Int) ti].toArray 0) ∈ led) (m3 : (q, instObj 142 dq) ∈ led) (m4 : (pb, W.listOf [].toArray 0) ∈ led) (m5 : (d, dictOf [⟨PyData.keyHash P (Str.ofString "read"), .str (Str.ofString "read") td, .ref r⟩] 1) ∈ led)
    (m6 : (f, (⟨.type "function", some d, .func fd, #[]⟩ : Obj)) ∈ led) (m7 : (r, (⟨.type "function", none, .func rf, #[]⟩ : Obj)) ∈ led)
    (k : ∀ X : LxT, X = ⟨q, dq, pb, d, f, l, r, t0, t1, t2, t3, t4, t5, td, ti, n, i, fd, rf⟩ → News g L h (X.objs P) → G) : G := by
  refine k ⟨q, dq, pb, d, f, l, r, t0, t1, t2, t3, t4, t5, td, ti, n, i, fd, rf⟩ rfl (fun p hp => N p ?_)
  simp only [LxT.objs, List.mem_cons, List.not_mem_nil, or_false] at hp
  rcases hp with rfl | rfl | rfl | rfl | rfl | rfl | rfl <;> assumption
section
local macro_rules | `(tactic| k_all) => `(tactic| assumption)
theorem heard_claim (w : World) (mean : ExcName → Option Value) (mg mb : Str → Option Value) (x : Str) (t : Tok) (hl : x.cps.size ≤ 500) (hpl : Plain3 x) :
    HClaim w mean mg mb x t [(172, tabObj #[])] (fun cR _ cL _ news => AllLt cR news ∧ AllLt cL news ∧ 172 < cR ∧ 172 < cL) := by
  dsimp only [HClaim]
  k_fill
  intro dp un gd cn cs a ccd cl outer A₀ base h₀ L m s Q E news hB hF hK hN hT hk hch hdp hun h172 hret
  simp only [List.cons_append, List.nil_append] at hN
  have kdm := kdMark
  have hl2 : x.length ≤ 500 := hl
  k_with_none
  k_with "!mine_nest" => (refine' code_nest ?k1 ?k2 ?k3 ?k4 ?k5 ?kA ?kF ?kK ?k6 ?k7 ?k8 ?k9 ?kB ?_ ?c2 ?c3 ?c4 ?c5; (case kA => exact rfl); (case kF => exact rfl); (case kK => assumption); (case k1 => k_asm); (case k2 => k_asm); (case k3 => k_asm); (case k4 => k_asm); (case k5 => k_asm); (case k6 => k_mem); (case k7 => exact codeRec_news (by k_asm) (by k_mem) (by assumption) (by assumption)); (case k8 => ktr_room); (case k9 => exact BindsTo.of_eq rfl); (case c5 => decide); (case kB => exact locs rfl); (case c2 => exact rfl); (case c3 => exact rfl); (case c4 => exact rfl); k_whole; intro g' L' h' FG' F' N' B' X' T'; (try dsimp only); (try k_lift B'); (revert g' L' h'; intros); (try k_fold))
  k_with "!mine_enterD" => (refine' code_def ?k1 ?k2 ?k3 ?k4 ?k5 ?kA ?kF ?kK ?k6 ?k7 ?k8 ?k9 ?kB ?_ ?c2 ?c3 ?c4 ?c5; (case kA => exact rfl); (case kF => exact rfl); (case kK => first | exact rfl | assumption); (case k1 => k_asm); (case k2 => k_asm); (case k3 => k_asm); (case k4 => k_asm); (case k5 => k_asm); (case k6 => k_is); (case k7 => k_is); (case k8 => ktr_room); (case k9 => exact BindsTo.of_eq rfl); (case c5 => decide); (case kB => exact locs rfl); (case c2 => exact rfl); (case c3 => exact rfl); (case c4 => exact rfl); k_whole; intro g' L' h' FG' F' N' B' X' T'; (try dsimp only); (try k_lift B'); (revert g' L' h'; intros); (try k_fold))
  k_with "!exec While Compare" => (k_here; k_dflt (refine wpAny_While ?_))
  refine wpAny_call ?_
  k_dflt (refine' code_defC ?k1 ?k2 ?k3 ?k4 ?k5 ?kA ?kF ?kK ?k6 ?k7 ?k8 ?k9 ?kB ?kD ?_ ?c2 ?c3 ?c4; (case kA => exact rfl); (case kF => exact rfl); (case kK => assumption); (case k1 => k_asm); (case k2 => k_asm); (case k3 => k_asm); (case k4 => k_asm); (case k5 => k_asm); (case k6 => k_is); (case k7 => k_is); (case k8 => ktr_room); (case k9 => exact BindsTo.of_eq rfl); (case kB => exact rfl); (case kD => decide +kernel); (case c2 => exact rfl); (case c3 => exact rfl); (case c4 => exact rfl); k_whole; intro g' L' h' tk' cells' FG' F' N' Y' B' X' T' l1; (try k_lt l1); k_cells Y'; (try simp only [List.cons_append, List.nil_append] at N'); (try dsimp only); (try k_lift B'); (try k_fold))
  have hch2 := hch.keeps (fun b o e => FG'.keep b o e)
  have l1a := allLt_up (b := L' + 1) l1.2 (Nat.le_succ _)
  have l1b := allLt_up (b := L' + 1 + 1) l1.2 (Nat.le_trans (Nat.le_succ _) (Nat.le_succ _))
  k_steps
  rename_i oA0 oT dA0 dT l hA ll hB2 oA dA fr cR oR vR tR ctR docR hx tkx hR1 hR2 lR lR2 hy fl cL oL vL tL ctL hz tkz hL1 hL2 lL lL2 hw FF NN
  refine take3 NN ?_
  intro ro hro NN3
  refine take8 NN3 ?_
  intro tab htab NN2
  clear NN3
  have dT2 : oT.data = .cell (some (.str x t)) := dT
  clear dT dA0
  clear NN
  have hRead : ReadOk w mean mg mb x l fr [(fr, ro), (cR, oR), (L' + 1 + 1, oA), (L' + 1, oT)] :=
    read_ok w mean mg mb x t l fr cR L' ro oR oA oT _ _ _ _ _ dA dT2 hl2 hR1 hR2 (neN (by omega)) (neN (by omega)) (neN (by omega)) (neN (by omega)) (by with_unfolding_all exact hro)
  have lfl := allLt_up (b := fl) lL.2.2.2.2.2.2 (Nat.le_of_lt lL2)
  refine fn_setattr (pre := []) FF NN2 (by simp) (by k_all) ?_
  intro d9 tk9 h9 tk8 hd9 F9 N9
  simp only [List.nil_append] at N9 hd9
  k_lt hd9
  clear NN2 FF
  k_steps
  k_dflt (refine' call_cls ?c1 ?c2 ?c3 ?c4 ?c5 ?c6 ?_; (case c1 => k_asm); (case c2 => k_asm); (case c3 => k_asm); (case c4 => k_is); (case c5 => k_is); (case c6 => k_is))
  intro q dq h7 F7 N7 l7 l8
  k_lt l7
  k_lt2 l8
  k_dflt (k_extra "!mine_enterD")
  k_steps
  rename Fr g' L' _ _ => FA
  rename News g' L' _ _ => NA
  obtain ⟨rf, hrf⟩ : ∃ rf, ro = (⟨.type "function", none, .func rf, #[]⟩ : Obj) := ⟨_, hro⟩
  refine lx_take (P := w.params) (q := q) (dq := dq) (d := d9) (f := fl) (l := l) (r := fr) (i := 0) (rf := rf) NA (by k_mem) (by k_mem) (by k_mem) (by k_mem) (by k_mem) (by k_mem) (by rw [← hrf]; k_mem) ?_
  intro X hX NX
  have e1 : X.q = q := by rw [hX]
  have e2 : X.dq = dq := by rw [hX]
  have e3 : X.d = d9 := by rw [hX]
  have e4 : X.f = fl := by rw [hX]
  have e5 : X.l = l := by rw [hX]
  have e6 : X.r = fr := by rw [hX]
  have e7 : X.n = 1 := by rw [hX]
  have e8 : X.i = 0 := by rw [hX]
  have hXpb := congrArg LxT.pb hX
  dsimp only at hXpb
  have hord : X.l < X.r ∧ X.r < X.f ∧ X.f < X.d ∧ X.d < X.dq ∧ X.dq < X.q ∧ X.q < X.pb := by rw [hX]; dsimp only; omega
  dsimp only [List.cons_append, List.nil_append, List.append_nil]
  have hRd : ReadOk w mean mg mb x X.l X.r [(fr, ro), (cR, oR), (L' + 1 + 1, oA), (L' + 1, oT)] := by rw [e5, e6]; exact hRead
  clear hX
  rw [← e1]
  rename_i _ _ _ wl _ lwl _
  have lw : X.pb < wl ∧ AllLt wl news := by rw [hXpb]; exact ⟨lwl.1, lwl.2.2.2.2.2.2.2.2.2.2.2.2⟩
  have hnl : AllLt l news := ll.2.2.2
  have hnd : AllLt X.dq news := allLt_up hnl (by rw [e2]; refine leN ?_; omega)
  have hOwn : ∀ p ∈ (fr, ro) :: (cR, oR) :: (L' + 1 + 1, oA) :: (L' + 1, oT) :: (cL, oL) :: (172, tabObj tab) :: news, p.1 ≠ X.dq ∧ p.1 ≠ X.l ∧ p.1 ≠ wl := by
    rw [e2, e5]
    intro p hp
    have lw1 := lw.1
    have hpbq := hord.2.2.2.2.2
    have hqdq := hord.2.2.2.2.1
    rw [e1] at hpbq hqdq
    rw [e2] at hqdq
    simp only [List.mem_cons] at hp
    rcases hp with rfl | rfl | rfl | rfl | rfl | rfl | hp
    · exact ⟨neN (by dsimp only; omega), neN (by dsimp only; omega), neN (by dsimp only; omega)⟩
    · exact ⟨neN (by dsimp only; omega), neN (by dsimp only; omega), neN (by dsimp only; omega)⟩
    · exact ⟨neN (by dsimp only; omega), neN (by dsimp only; omega), neN (by dsimp only; omega)⟩
    · exact ⟨neN (by dsimp only; omega), neN (by dsimp only; omega), neN (by dsimp only; omega)⟩
    · exact ⟨neN (by dsimp only; omega), neN (by dsimp only; omega), neN (by dsimp only; omega)⟩
    · exact ⟨neN (by dsimp only; omega), neN (by dsimp only; omega), neN (by dsimp only; omega)⟩
    · have a1 := ltN (tb_ltOf hnl p hp)
      exact ⟨neN (by omega), neN (by omega), neN (by omega)⟩
  k_dflt (refine' gt_claim w mean mg mb x X _ _ _ _ _ _ _ _ _ _ _ _ _ _ _ _ _ _ ((wl, W.listOf [].toArray 0) :: (fr, ro) :: (cR, oR) :: (L' + 1 + 1, oA) :: (L' + 1, oT) :: (cL, oL) :: (172, tabObj tab) :: news) ?g1 FA ?g3 ?g4 ?g5 ?g6 hch2 ?g8 ?g9 ?g10 ?g11 ?g12 hRd hpl hl ?g15)
  case g1 => k_asm
  case g3 => k_asm
  case g4 =>
    intro p hp
    rcases List.mem_append.mp hp with hp | hp
    · exact NX p hp
    · refine NA p ?_
      refine sbAt ?_ hp
      walk_at "sub"
  case g5 => k_asm
  case g6 => exact rfl
  case g8 => walk_at "sub"
  case g9 => (try dsimp only [ktrTop, Around.deeper, Around.mark, Around.in1, Around.under]); omega
  case g10 => (try dsimp only [ktrTop, Around.deeper, Around.mark, Around.in1, Around.under]); omega
  case g11 =>
    refine ⟨hord, fun p hp => ?_, fun p hp => ?_⟩
    · rcases List.mem_cons.mp hp with rfl | hp
      · exact neN (by have := hord.2.2.2.2; have := lw.1; dsimp only; omega)
      · exact (hOwn p hp).1
    · rcases List.mem_cons.mp hp with rfl | hp
      · exact neN (by have := hord; have := lw.1; dsimp only; omega)
      · exact (hOwn p hp).2.1
  case g12 => rw [e8]; exact Nat.zero_le _
  case g15 =>
    intro t6 t1' ti' h6 tk6 F6 N6
    obtain ⟨own, hown⟩ : ∃ own, own = (fr, ro) :: (cR, oR) :: (L' + 1 + 1, oA) :: (L' + 1, oT) :: (cL, oL) :: (172, tabObj tab) :: news := ⟨_, rfl⟩
    rw [← hown] at N6 hOwn
    have hin : ∀ p ∈ [(fr, ro), (cR, oR), (L' + 1 + 1, oA), (L' + 1, oT)], p ∈ own := by
      rw [hown]; walk_at "sub"
    rw [e7, e8, List.drop_zero] at N6
    rw [e8, List.drop_zero]
    dsimp only [LxT.objs, List.cons_append, List.nil_append] at N6
    clear FA NA NX
    k_steps
    rename Fr g' L' _ _ => FB
    rename News g' L' _ _ => NB
    with_unfolding_all refine' heard_loop w mean mg mb x hl hpl dp un gd cn cs a ccd cl outer base g' L L' s _ _ X wl own _ ?u1 ?u2 ?u3 hch2 hdp hun hRd hin hOwn hord lw.1 ?u4 ?u5
    case u1 => assumption
    case u2 => assumption
    case u3 => assumption
    case u4 => exact hd_intro (n' := (1 : Int) + ((tokL x.cps.toList).2.2 : Int)) (i' := x.cps.size - (tokL x.cps.toList).2.1.length) (t1' := t1') (ti' := ti') (k := 0) (y := ⟨(tokL x.cps.toList).1.toArray⟩) rfl rfl rfl FB NB rfl rfl (by rw [e1]; rfl)
    clear FB NB
    intro us add i s1 hD hadd hLx
    dsimp only
    refine hd_elim hLx ?_
    clear hLx s1
    intro h' tk' m' t1' ti' tt kk F' N'
    dsimp only [LxT.objs, List.cons_append, List.nil_append] at N'
    k_steps
    rename_i D9 hq FC NC lD9 kF kN _ _
    refine hret D9 wl us kk add t1' cR oR cL oL _ _ kF ?_ ?_ ⟨⟨_, _, hR1, hR2⟩, ⟨_, _, hL1, hL2⟩⟩ lw.2 ?_ ?_ ?_ lD9.2.2.2.2.2.2.2.1 hadd ?_
    · intro p hp
      refine kN p ?_
      rw [hown, htab]
      refine sbAt ?_ hp
      walk_at "sub"
    · exact hD
    · exact lwl.2.2.2.2.2.2.2.2.2.2.2.1
    · have h3 := lR2; rw [← e6] at h3; have h4 := ltN h3; have h5 := hord; have h6 := ltN lw.1; refine ltN ?_; omega
    · have h3 := lL2; rw [← e4] at h3; have h4 := ltN h3; have h5 := hord; have h6 := ltN lw.1; refine ltN ?_; omega
    · exact ⟨lR.2.2.2.2, lL.2.2.2.2.2.2, lR.2.2.2.1, lL.2.2.2.2.2.1⟩
end
end Mine
end
section
open PySem PySem.W PyProof.Rows
namespace Mine
theorem fresh_T22 : True := by
  k_with_none
  w_top off
  trivial
noncomputable abbrev H2Claim (w : World) (mean : ExcName → Option Value) (mg mb : Str → Option Value) (x : Str) (t : Tok) (cR : Nat) (oR : Obj) (cL : Nat) (oL : Obj) : Prop :=
  ∀ (dp un : Nat) (gd : Option (List Code)) (cn : Str) (cs : Scope) (a : Addr) (ccd : Value) (cl : List (Str × Addr)) (outer : List Env) (A₀ : Around) (base h₀ : Heap) (L : Addr) (m : Str → Option Value) (s : Shared) (Q E : Value → Shared → Prop) (news : List (Addr × Obj)),
    Below A₀ base outer h₀ → Fr h₀ L s.heap m → (hd.heap_39 w.params).In h₀ → News h₀ L s.heap news → Top topProg LooseL mean mg mb h₀ → cs.kind = .function → CodeHd h₀ 176 172 →
    dp + 10 < recursionLimit → un + 200 < cLine → (∀ p ∈ [(172, tabObj (tabOf cR cL)), (cR, oR), (cL, oL)], p ∈ news) →
    (∀ (D wl : Nat) (us : List Value) (k : Nat) (add : List (Addr × Obj)) (tr : Tok) (h' : Heap) (tk' : Nat), Fr h₀ L h' m →
      News h₀ L h' ((D, ({ cls := .type "tuple", data := .seq #[.ref wl, .int (wordsX x).2 tr] } : Obj)) :: (wl, listOf us.toArray k) :: (add ++ news)) →
      DatAll add us ((wordsX x).1.map wordD) → AllLt wl news → wl < D → (∀ p ∈ add, wl < p.1) → Q (.ref D) { s with heap := h', toks := tk' }) →
      wpAny (model Challenge.rw_pe0179_01.row.prog w) (ktrTop dp un gd cn cs L a ccd cl outer) (call (.ref 177) [.str x t]) Q E s
theorem reord {P : Prop} {g h : Heap} {L : Addr} {a b c d e t x y : Addr × Obj} {l : List (Addr × Obj)} (N : News g L h (a :: b :: c :: d :: e :: t :: x :: y :: l)) (k : News g L h (a :: y :: b :: x :: c :: d :: e :: t :: l) → P) : P :=
  k (fun p hp => N p (sbAt (by walk_at "sub") hp))
section
local macro_rules | `(tactic| k_all) => `(tactic| assumption)
theorem heard2_claim (w : World) (mean : ExcName → Option Value) (mg mb : Str → Option Value) (x : Str) (t : Tok) (cR : Nat) (oR : Obj) (cL : Nat) (oL : Obj) (hTab : TabOk oR oL) (hl : x.cps.size ≤ 500) (hpl : Plain3 x) :
    H2Claim w mean mg mb x t cR oR cL oL := by
  dsimp only [H2Claim]
  k_fill
  intro dp un gd cn cs a ccd cl outer A₀ base h₀ L m s Q E news hB hF hK hN hT hk hch hdp hun hmem hret
  have hN2 := news_app hN hmem
  simp only [List.cons_append, List.nil_append] at hN2
  clear hN
  refine cps ?_
  intro C9 hC9
  obtain ⟨⟨vR, tR, hR1, hR2⟩, ⟨vL, tL, hL1, hL2⟩⟩ := hTab
  refine hC9 ?_
  clear hC9 C9
  have kdm := kdMark
  have hl2 : x.length ≤ 500 := hl
  k_with_none
  k_with "!mine_nest" => (refine' code_nest ?k1 ?k2 ?k3 ?k4 ?k5 ?kA ?kF ?kK ?k6 ?k7 ?k8 ?k9 ?kB ?_ ?c2 ?c3 ?c4 ?c5; (case kA => exact rfl); (case kF => exact rfl); (case kK => assumption); (case k1 => k_asm); (case k2 => k_asm); (case k3 => k_asm); (case k4 => k_asm); (case k5 => k_asm); (case k6 => k_mem); (case k7 => exact codeRec_news (by k_asm) (by k_mem) (by assumption) (by assumption)); (case k8 => ktr_room); (case k9 => exact BindsTo.of_eq rfl); (case c5 => decide); (case kB => exact locs rfl); (case c2 => exact rfl); (case c3 => exact rfl); (case c4 => exact rfl); k_whole; intro g' L' h' FG' F' N' B' X' T'; (try dsimp only); (try k_lift B'); (revert g' L' h'; intros); (try k_fold))
  k_with "!mine_enterD" => (refine' code_def ?k1 ?k2 ?k3 ?k4 ?k5 ?kA ?kF ?kK ?k6 ?k7 ?k8 ?k9 ?kB ?_ ?c2 ?c3 ?c4 ?c5; (case kA => exact rfl); (case kF => exact rfl); (case kK => first | exact rfl | assumption); (case k1 => k_asm); (case k2 => k_asm); (case k3 => k_asm); (case k4 => k_asm); (case k5 => k_asm); (case k6 => k_is); (case k7 => k_is); (case k8 => ktr_room); (case k9 => exact BindsTo.of_eq rfl); (case c5 => decide); (case kB => exact locs rfl); (case c2 => exact rfl); (case c3 => exact rfl); (case c4 => exact rfl); k_whole; intro g' L' h' FG' F' N' B' X' T'; (try dsimp only); (try k_lift B'); (revert g' L' h'; intros); (try k_fold))
  k_with "!exec While Compare" => (k_here; k_dflt (refine wpAny_While ?_))
  refine wpAny_call ?_
  k_dflt (refine' code_defC ?k1 ?k2 ?k3 ?k4 ?k5 ?kA ?kF ?kK ?k6 ?k7 ?k8 ?k9 ?kB ?kD ?_ ?c2 ?c3 ?c4; (case kA => exact rfl); (case kF => exact rfl); (case kK => assumption); (case k1 => k_asm); (case k2 => k_asm); (case k3 => k_asm); (case k4 => k_asm); (case k5 => k_asm); (case k6 => k_is); (case k7 => k_is); (case k8 => ktr_room); (case k9 => exact BindsTo.of_eq rfl); (case kB => exact rfl); (case kD => decide +kernel); (case c2 => exact rfl); (case c3 => exact rfl); (case c4 => exact rfl); k_whole; intro g' L' h' tk' cells' FG' F' N' Y' B' X' T' l1; (try k_lt l1); k_cells Y'; (try simp only [List.cons_append, List.nil_append] at N'); (try dsimp only); (try k_lift B'); (try k_fold))
  have hch2 := hch.keeps (fun b o e => FG'.keep b o e)
  have l1a := allLt_up (b := L' + 1) l1.2.2.2 (Nat.le_succ _)
  have l1b := allLt_up (b := L' + 1 + 1) l1.2.2.2 (Nat.le_trans (Nat.le_succ _) (Nat.le_succ _))
  k_steps
  rename_i oA0 oT dA0 dT l hA ll hB2 oA dA fr ctR docR hx tkx lR hy fl ctL hz tkz lL hw FF NNa
  refine reord NNa ?_
  intro NN
  clear NNa
  refine take3 NN ?_
  intro ro hro NN3
  refine take8 NN3 ?_
  intro tab htab NN2
  clear NN3
  have dT2 : oT.data = .cell (some (.str x t)) := dT
  clear dT dA0
  clear NN
  have hRead : ReadOk w mean mg mb x l fr [(fr, ro), (cR, oR), (L' + 1 + 1, oA), (L' + 1, oT)] :=
    read_ok w mean mg mb x t l fr cR L' ro oR oA oT _ _ _ _ _ dA dT2 hl2 hR1 hR2 (neN (by omega)) (neN (by omega)) (neN (by omega)) (neN (by omega)) (by with_unfolding_all exact hro)
  have lfl : AllLt fl news := lL.2.2.2.2.2.2.2
  refine fn_setattr (pre := []) FF NN2 (by simp) (by k_all) ?_
  intro d9 tk9 h9 tk8 hd9 F9 N9
  simp only [List.nil_append] at N9 hd9
  k_lt hd9
  clear NN2 FF
  k_steps
  k_dflt (refine' call_cls ?c1 ?c2 ?c3 ?c4 ?c5 ?c6 ?_; (case c1 => k_asm); (case c2 => k_asm); (case c3 => k_asm); (case c4 => k_is); (case c5 => k_is); (case c6 => k_is))
  intro q dq h7 F7 N7 l7 l8
  k_lt l7
  k_lt2 l8
  k_dflt (k_extra "!mine_enterD")
  k_steps
  rename Fr g' L' _ _ => FA
  rename News g' L' _ _ => NA
  obtain ⟨rf, hrf⟩ : ∃ rf, ro = (⟨.type "function", none, .func rf, #[]⟩ : Obj) := ⟨_, hro⟩
  refine lx_take (P := w.params) (q := q) (dq := dq) (d := d9) (f := fl) (l := l) (r := fr) (i := 0) (rf := rf) NA (by k_mem) (by k_mem) (by k_mem) (by k_mem) (by k_mem) (by k_mem) (by rw [← hrf]; k_mem) ?_
  intro X hX NX
  have e1 : X.q = q := by rw [hX]
  have e2 : X.dq = dq := by rw [hX]
  have e3 : X.d = d9 := by rw [hX]
  have e4 : X.f = fl := by rw [hX]
  have e5 : X.l = l := by rw [hX]
  have e6 : X.r = fr := by rw [hX]
  have e7 : X.n = 1 := by rw [hX]
  have e8 : X.i = 0 := by rw [hX]
  have hXpb := congrArg LxT.pb hX
  dsimp only at hXpb
  have hord : X.l < X.r ∧ X.r < X.f ∧ X.f < X.d ∧ X.d < X.dq ∧ X.dq < X.q ∧ X.q < X.pb := by rw [hX]; dsimp only; omega
  dsimp only [List.cons_append, List.nil_append, List.append_nil]
  have hRd : ReadOk w mean mg mb x X.l X.r [(fr, ro), (cR, oR), (L' + 1 + 1, oA), (L' + 1, oT)] := by rw [e5, e6]; exact hRead
  clear hX
  rw [← e1]
  rename_i _ _ _ wl _ lwl _
  have lw : X.pb < wl ∧ AllLt wl news := by rw [hXpb]; exact ⟨lwl.1, lwl.2.2.2.2.2.2.2.2.2.2.2.2⟩
  have hnl : AllLt l news := ll.2.2.2.2.2
  have hnd : AllLt X.dq news := allLt_up hnl (by rw [e2]; refine leN ?_; omega)
  have hOwn : ∀ p ∈ (fr, ro) :: (cR, oR) :: (L' + 1 + 1, oA) :: (L' + 1, oT) :: (cL, oL) :: (172, tabObj tab) :: news, p.1 ≠ X.dq ∧ p.1 ≠ X.l ∧ p.1 ≠ wl := by
    rw [e2, e5]
    intro p hp
    have lw1 := lw.1
    have hpbq := hord.2.2.2.2.2
    have hqdq := hord.2.2.2.2.1
    rw [e1] at hpbq hqdq
    rw [e2] at hqdq
    simp only [List.mem_cons] at hp
    rcases hp with rfl | rfl | rfl | rfl | rfl | rfl | hp
    · exact ⟨neN (by dsimp only; omega), neN (by dsimp only; omega), neN (by dsimp only; omega)⟩
    · exact ⟨neN (by dsimp only; omega), neN (by dsimp only; omega), neN (by dsimp only; omega)⟩
    · exact ⟨neN (by dsimp only; omega), neN (by dsimp only; omega), neN (by dsimp only; omega)⟩
    · exact ⟨neN (by dsimp only; omega), neN (by dsimp only; omega), neN (by dsimp only; omega)⟩
    · exact ⟨neN (by dsimp only; omega), neN (by dsimp only; omega), neN (by dsimp only; omega)⟩
    · exact ⟨neN (by dsimp only; omega), neN (by dsimp only; omega), neN (by dsimp only; omega)⟩
    · have a1 := ltN (tb_ltOf hnl p hp)
      exact ⟨neN (by omega), neN (by omega), neN (by omega)⟩
  k_dflt (refine' gt_claim w mean mg mb x X _ _ _ _ _ _ _ _ _ _ _ _ _ _ _ _ _ _ ((wl, W.listOf [].toArray 0) :: (fr, ro) :: (cR, oR) :: (L' + 1 + 1, oA) :: (L' + 1, oT) :: (cL, oL) :: (172, tabObj tab) :: news) ?g1 FA ?g3 ?g4 ?g5 ?g6 hch2 ?g8 ?g9 ?g10 ?g11 ?g12 hRd hpl hl ?g15)
  case g1 => k_asm
  case g3 => k_asm
  case g4 =>
    intro p hp
    rcases List.mem_append.mp hp with hp | hp
    · exact NX p hp
    · refine NA p ?_
      refine sbAt ?_ hp
      walk_at "sub"
  case g5 => k_asm
  case g6 => exact rfl
  case g8 => walk_at "sub"
  case g9 => (try dsimp only [ktrTop, Around.deeper, Around.mark, Around.in1, Around.under]); omega
  case g10 => (try dsimp only [ktrTop, Around.deeper, Around.mark, Around.in1, Around.under]); omega
  case g11 =>
    refine ⟨hord, fun p hp => ?_, fun p hp => ?_⟩
    · rcases List.mem_cons.mp hp with rfl | hp
      · exact neN (by have := hord.2.2.2.2; have := lw.1; dsimp only; omega)
      · exact (hOwn p hp).1
    · rcases List.mem_cons.mp hp with rfl | hp
      · exact neN (by have := hord; have := lw.1; dsimp only; omega)
      · exact (hOwn p hp).2.1
  case g12 => rw [e8]; exact Nat.zero_le _
  case g15 =>
    intro t6 t1' ti' h6 tk6 F6 N6
    obtain ⟨own, hown⟩ : ∃ own, own = (fr, ro) :: (cR, oR) :: (L' + 1 + 1, oA) :: (L' + 1, oT) :: (cL, oL) :: (172, tabObj tab) :: news := ⟨_, rfl⟩
    rw [← hown] at N6 hOwn
    have hin : ∀ p ∈ [(fr, ro), (cR, oR), (L' + 1 + 1, oA), (L' + 1, oT)], p ∈ own := by
      rw [hown]; walk_at "sub"
    rw [e7, e8, List.drop_zero] at N6
    rw [e8, List.drop_zero]
    dsimp only [LxT.objs, List.cons_append, List.nil_append] at N6
    clear FA NA NX
    k_steps
    rename Fr g' L' _ _ => FB
    rename News g' L' _ _ => NB
    with_unfolding_all refine' heard_loop w mean mg mb x hl hpl dp un gd cn cs a ccd cl outer base g' L L' s _ _ X wl own _ ?u1 ?u2 ?u3 hch2 hdp hun hRd hin hOwn hord lw.1 ?u4 ?u5
    case u1 => assumption
    case u2 => assumption
    case u3 => assumption
    case u4 => exact hd_intro (n' := (1 : Int) + ((tokL x.cps.toList).2.2 : Int)) (i' := x.cps.size - (tokL x.cps.toList).2.1.length) (t1' := t1') (ti' := ti') (k := 0) (y := ⟨(tokL x.cps.toList).1.toArray⟩) rfl rfl rfl FB NB rfl rfl (by rw [e1]; rfl)
    clear FB NB
    intro us add i s1 hD hadd hLx
    dsimp only
    refine hd_elim hLx ?_
    clear hLx s1
    intro h' tk' m' t1' ti' tt kk F' N'
    dsimp only [LxT.objs, List.cons_append, List.nil_append] at N'
    k_steps
    rename_i D9 hq FC NC lD9 kF kN _ _
    refine hret D9 wl us kk add t1' _ _ kF ?_ ?_ lw.2 lD9.2.2.2.2.2.2.2.1 hadd
    · intro p hp
      refine kN p ?_
      rw [hown]
      refine sbAt ?_ hp
      walk_at "sub"
    · exact hD
end
end Mine
end
section
open PySem PySem.W PyProof.Rows
namespace Mine
theorem fresh_T3 : True := by
  k_with_none
  w_top off
  trivial
noncomputable def colStep (size : Int) (c r : Int) : Int := (c + r) + size - Int.fmod (c + r) size
noncomputable def colF (ns : List Int) (size : Int) : Int := ns.foldl (colStep size) 0
theorem colF_nil (size : Int) : 0 = colF [] size := rfl
theorem colF_snoc (pre : List Int) (r size : Int) : colF (pre ++ [r]) size = colF pre size + r + size - Int.fmod (colF pre size + r) size := by simp [colF, colStep, List.foldl_append]
theorem col_claim (w : World) (mean : ExcName → Option Value) (mg mb : Str → Option Value) (l : Addr) (vs : List Value) (k : Nat) (ns : List Int) (hI : IntsAre vs ns) (hl : ns.length ≤ 1000) (size : Int) (tk0 : Tok) (h1 : 1 ≤ size) :
    PClaim w mean mg mb 191 [(l, listOf vs.toArray k)] True [.ref l, .int size tk0] 2 100 (fun t => .int (colF ns size) t) := by
  dsimp only [PClaim]
  k_fill
  intro dp un gd cn cs a ccd cl outer A₀ base h₀ L m s Q E news hB hF hK hN hT hk hown hpre hdp hun hret
  have hN2 := news_app hN hown
  simp only [List.cons_append, List.nil_append] at hN2
  clear hN
  have kdm := kdMark
  k_with_none
  k_with "pyIter ref" => k_state_given ["size"] (fun sz pre c => c = colF pre sz) "column"
  k_with "state" => (first | exact colF_nil _ | (rw [colF_snoc]; subst_vars; rfl))
  refine wpAny_call ?_
  k_dflt cell_enter
  k_steps
  exact cb_retI hret (by assumption) (by assumption) (cb_drop (by assumption) (by intro p hp; (first | walk_at "subm" | simp [hp])))
end Mine
end
section
open PySem PySem.W PyProof.Rows PySem.Calls PyProof.Rows.LCg
namespace Mine
theorem fresh_CX : True := by
  k_with_none
  w_top off
  trivial
/-- the tests of a clause -/
noncomputable def TstX (prog : Program) (w : World) (A : Around) (ifs : List Expr) (env : Env) (Q : Bool → Shared → Prop) (E : Value → Shared → Prop) (s : Shared) : Prop :=
  wpAny (model prog w) A (forIn ifs true fun c r => if r = true then do let ok ← isTrue c env (eval c env); pure (ForInStep.yield ok) else pure (ForInStep.yield r)) Q E s
section
variable {prog : Program} {w : World} {A : Around} {E : Value → Shared → Prop} {s : Shared} {env : Env}
theorem tst_nil {Q : Bool → Shared → Prop} (h : Q true s) : TstX prog w A [] env Q E s := wpAny_tests_nil h
theorem tst_one {c : Expr} {Q : Bool → Shared → Prop} (h : wpAny (model prog w) A (isTrue c env (eval c env)) Q E s) : TstX prog w A [c] env Q E s := wpAny_tests_one h
theorem loopX {elt target iter : Expr} {ifs : List Expr} {scope : Scope} {pos : Pos} {it acc : Value} {R : Result → Shared → Prop} (I : Nat → Shared → Prop)
    (turn : ∀ n s, I n s → wpAny (model prog w) A (pyNext it) (fun r s₁ => match r with
      | none => R (.ok .next) s₁
      | some v => wpAny (model prog w) A (letOwnedTupleGo target it v) (fun _ s₀ => wpAny (model prog w) A (assign target env v) (fun _ s₂ =>
          TstX prog w A ifs env (fun ok s₃ => if ok = true then wpAny (model prog w) A (eval elt env) (fun x s₄ =>
            wpAny (model prog w) A (call (.builtin "list.append") [acc, x]) (fun _ s₅ => ∃ m, m < n ∧ I m s₅) (notedBy (model prog w) A env fun e s' => R (.error e) s') s₄) (notedBy (model prog w) A env fun e s' => R (.error e) s') s₃
            else ∃ m, m < n ∧ I m s₃) (notedBy (model prog w) A env fun e s' => R (.error e) s') s₂)
          (notedBy (model prog w) A env fun e s' => R (.error e) s') s₀) (notedBy (model prog w) A env fun e s' => R (.error e) s') s₁) (notedBy (model prog w) A env fun e s' => R (.error e) s') s)
    (n : Nat) (h : I n s) : codeAny (model prog w) A (.compLoop (.ListComp elt [⟨target, iter, ifs, 0⟩] scope pos) 0 it acc env) R s := by
  refine codeAny_loop rfl I (fun n s hI => ?_) n h
  show wpAny _ A ((compTurn (.ListComp elt [⟨target, iter, ifs, 0⟩] scope pos) 0 it acc env).onRaise (fun x => do noteFrame x env; theTreesLotGoes x)) _ _ s
  refine wpAny_noted ?_
  rw [compTurn_list]
  refine wpAny_bind (wpAny_standAt (wpAny_bind (wpAny_mono (turn n s hI) (fun r s₁ h₁ => ?_) fun _ _ h' => h')))
  cases r with
  | none => exact wpAny_pure h₁
  | some v =>
    refine wpAny_bind (wpAny_mono h₁ (fun _ s₀ h₀' => ?_) fun _ _ h' => h')
    refine wpAny_bind (wpAny_mono h₀' (fun _ s₂ h₂ => ?_) fun _ _ h' => h')
    refine wpAny_bind (wpAny_mono h₂ (fun okb s₃ h₃ => ?_) fun _ _ h' => h')
    cases okb with
    | false => exact wpAny_pure ⟨rfl, h₃⟩
    | true => exact wpAny_bind (wpAny_bind (wpAny_mono h₃ (fun x s₄ h₄ => wpAny_bind (wpAny_mono h₄ (fun _ s₅ h₅ => wpAny_pure (wpAny_pure ⟨rfl, h₅⟩)) fun _ _ h' => h')) fun _ _ h' => h'))
end
/-- how the target takes an item: the names' values behind it -/
noncomputable def TakesX (prog : Program) (w : World) (A : Around) (h₀ : Heap) (L : Addr) (env : Env) (tg : Expr) (scope : Scope) (cl : List (Str × Addr)) (I : Addr) (s₂ : Shared) (n : Nat) (P : Nat → Value → Prop) (St : Nat → Heap → Prop) (X : Nat → Value → (Str → Option Value) → Prop) (J : Nat → List Value → List (Addr × Obj) → Prop) : Prop :=
  ∀ i v h tk m' C D ys nw (Q : Unit → Shared → Prop) (E' : Value → Shared → Prop), i < n → P i v → St (i + 1) h → J i ys nw → News h₀ L h ((D, lst ys) :: nw) → h.Ns C m' →
    (∀ h₃ tk₃ m₃, h₃.Ns C m₃ → X i v m₃ → Heap.ExtBut C h h₃ → Q () { s₂ with heap := h₃, toks := tk₃ }) →
      wpAny (model prog w) A (letOwnedTupleGo tg (.ref I) v) (fun _ s₀ => wpAny (model prog w) A (assign tg (compEnvC scope cl C env) v) Q E' s₀) E' { s₂ with heap := h, toks := tk }
/-- a turn's end -/
noncomputable def CEnd (h₀ : Heap) (L : Addr) (m : Str → Option Value) (s₁ : Shared) (I : Addr) (oI : Obj) (C : Addr) (oC : Obj) (D : Addr) (oD : Obj) (J : List (Addr × Obj) → Prop) (s₂ : Shared) : Prop :=
  ∃ h' tk news', s₂ = { s₁ with heap := h', toks := tk } ∧ Fr h₀ L h' m ∧ News h₀ L h' ((I, oI) :: (C, oC) :: (D, oD) :: news') ∧ Off3 I C D news' ∧ J news'
noncomputable def TurnX (prog : Program) (w : World) (A : Around) (h₀ : Heap) (L : Addr) (m : Str → Option Value) (env : Env) (elt : Expr) (ifs : List Expr) (scope : Scope) (cl : List (Str × Addr)) (s₂ : Shared) (n : Nat) (P : Nat → Value → Prop) (X : Nat → Value → (Str → Option Value) → Prop) (J : Nat → List Value → List (Addr × Obj) → Prop) : Prop :=
  ∀ i v ys nw I oI C oC D m₂ h tk (E' : Value → Shared → Prop), i < n → P i v → J i ys nw → NsObj oC m₂ → X i v m₂ → Fr h₀ L h m → News h₀ L h ((I, oI) :: (C, oC) :: (D, lst ys) :: nw) → Off3 I C D nw → ((@Ne Nat I C) ∧ (@Ne Nat I D) ∧ (@Ne Nat C D)) →
    TstX prog w A ifs (compEnvC scope cl C env) (fun ok s₃ => if ok = true then wpAny (model prog w) A (eval elt (compEnvC scope cl C env)) (fun y s₄ => CEnd h₀ L m { s₂ with heap := h, toks := tk } I oI C oC D (lst ys) (J (i + 1) (ys ++ [y])) s₄) E' s₃
      else CEnd h₀ L m { s₂ with heap := h, toks := tk } I oI C oC D (lst ys) (J (i + 1) ys) s₃) E' { s₂ with heap := h, toks := tk }
section
variable {prog : Program} {w : World} {A : Around} {E : Value → Shared → Prop} {s : Shared} {h₀ : Heap} {L : Addr} {m : Str → Option Value} {env : Env}
theorem blockX {elt tg iter : Expr} {ifs : List Expr} {scope : Scope} {cl : List (Str × Addr)} {pos : Pos} {s₂ : Shared} {I : Addr} {fp : List Addr} {n : Nat} {P : Nat → Value → Prop} {St : Nat → Heap → Prop} {news : List (Addr × Obj)} {X : Nat → Value → (Str → Option Value) → Prop} {J : Nat → List Value → List (Addr × Obj) → Prop}
    {RR : Value → Addr → Result → Shared → Prop}
    (W : Walks prog w A I fp [I] n P St) (hsz : n ≤ sizeLine) (hIo : ∀ i h, St i h → ∃ o, h.get? I = some o)
    (hSt : ∀ j ys i h h' o nw, St i h → h.get? I = some o → h'.get? I = some o → (∀ b o, h₀.get? b = some o → h'.get? b = some o) → News h₀ L h' nw → J j ys nw → St i h')
    (hcell : ∀ y ∈ scope.names, y.2 ≠ .cell) (hkind : scope.kind = .function) (hst : St 0 s₂.heap) (hfp : ∀ b ∈ fp, b < s₂.heap.objs.size)
    (F : Fr h₀ L s₂.heap m) (N : News h₀ L s₂.heap news) (hIL : L ≠ I) (hI₀ : h₀.get? I = none) (off : ∀ p ∈ news, p.1 ≠ I) (hJ : J 0 [] news)
    (takes : TakesX prog w A h₀ L env tg scope cl I s₂ n P St X J)
    (turn : TurnX prog w A h₀ L m env elt ifs scope cl s₂ n P X J)
    (hRR : ∀ D C h tk m' ys news', Fr h₀ L h m → News h₀ L h ((D, lst ys) :: news') → Off1 D news' → h.Ns C m' → h₀.get? C = none → h₀.get? D = none → C ≠ L → D ≠ L → C ≠ D → (∀ p ∈ news', p.1 ≠ C) → J n ys news' → RR (.ref D) C (.ok .next) { s₂ with heap := h, toks := tk }) :
    wpAny (model prog w) A (newList []) (fun acc s₃ => wpAny (model prog w) A (newFunctionEnv scope env.globals cl [] env.qual none .none (some env)) (fun cenv s₄ =>
      codeAny (model prog w) A (.compStart (.ListComp elt [⟨tg, iter, ifs, 0⟩] scope pos) 0 (.ref I) acc { cenv with scope := relabel scope env }) (RR acc cenv.locals) s₄) E s₃) E s₂ := by
  refine wpAny_newObj_type (wpAny_newFunctionEnv hcell (by intro y hy; simp at hy) (fun h₁ hns₁ hsb₁ => ?_) hkind)
  dsimp only at hns₁ hsb₁ ⊢
  generalize hH2 : s₂.heap.push { cls := .type "list", dict := none, data := .seq ([] : List Value).toArray } = H2 at hns₁ hsb₁ ⊢
  have hC : H2.objs.size = s₂.heap.objs.size + 1 := by rw [← hH2, Heap.size_push]
  generalize hCC : H2.objs.size = C at *
  generalize hDD : s₂.heap.objs.size = D at *
  have hDC : D ≠ C := by rw [hC]; exact Nat.ne_of_lt (Nat.lt_succ_self _)
  have below : ∀ b, b < D → b ≠ C ∧ b ≠ D := fun b hb => ⟨by rw [hC]; exact Nat.ne_of_lt (Nat.lt_succ_of_lt hb), Nat.ne_of_lt hb⟩
  have hDf : D ∉ fp := fun hm => Nat.lt_irrefl _ (hfp _ hm)
  have hCf : C ∉ fp := fun hm => by have := hfp _ hm; rw [hC] at this; exact Nat.lt_irrefl _ (Nat.lt_of_succ_lt this)
  have hIlt : I < D := hfp I (W.sub I (List.mem_singleton.mpr rfl))
  have ltD : ∀ {b o}, s₂.heap.get? b = some o → b < D := fun e => hDD ▸ Heap.lt_size e
  have old : ∀ b o, s₂.heap.get? b = some o → h₁.get? b = some o := fun b o e => hsb₁.extBut b o (below b (ltD e)).1 (Heap.get?_push_of_some _ (hH2 ▸ Heap.get?_push_of_some _ e))
  have hacc : h₁.get? D = some (lst []) := hsb₁.extBut _ _ hDC (Heap.get?_push_of_some _ (by rw [← hH2, ← hDD]; exact Heap.get?_push_size _ rfl))
  have hst₁ : St 0 h₁ := W.frame _ _ _ hst fun b _ o e => old b o e
  have fresh₀ : ∀ a, D ≤ a → h₀.get? a = none := fun a ha => by
    cases e : h₀.get? a with
    | none => rfl
    | some o' => exact absurd (ltD (F.keep a o' e)) (Nat.not_lt.mpr ha)
  have hD₀ : h₀.get? D = none := fresh₀ _ (Nat.le_refl _)
  have hC₀ : h₀.get? C = none := fresh₀ _ (by rw [hC]; exact Nat.le_succ _)
  have hLlt : L < D := hDD ▸ F.ns.lt
  have hDL : D ≠ L := Ne.symm (below L hLlt).2
  have hCL : C ≠ L := Ne.symm (below L hLlt).1
  have hCI : I ≠ C := (below I hIlt).1
  have hDI : I ≠ D := (below I hIlt).2
  have off₀ : Off3 I C D news := Off3.of fun p hp => ⟨off p hp, (below _ (ltD (N p hp).1)).1, (below _ (ltD (N p hp).1)).2⟩
  have loop : ∀ s₃ : Shared, s₃ = { s₂ with heap := h₁, toks := s₂.toks + ([] : List (Str × Value)).length } →
      codeAny (model prog w) A (.compLoop (.ListComp elt [⟨tg, iter, ifs, 0⟩] scope pos) 0 (.ref I) (.ref D) (compEnvC scope cl C env)) (RR (.ref D) C) s₃ := by
    rintro s₃ rfl
    refine loopX
      (fun k s' => ∃ h' tk i ys m' news', s' = { s₂ with heap := h', toks := tk } ∧ i ≤ n ∧ k = n + 1 - i ∧ ys.length ≤ i ∧ St i h' ∧ Fr h₀ L h' m ∧ h'.Ns C m' ∧ News h₀ L h' ((D, lst ys) :: news') ∧ Off3 I C D news' ∧ J i ys news') ?_ (n + 1)
      ⟨h₁, _, 0, [], _, news, rfl, Nat.zero_le _, rfl, Nat.le_refl _, hst₁, F.keeps old, hns₁, fun p hp => ?_, off₀, hJ⟩
    · rintro k s' hX9
      refine cps ?_
      intro C9 hC9
      obtain ⟨h', tk, i, ys, m', news', rfl, hi, rfl, hyl, hst', F', hn', N', off', hJ'⟩ := hX9
      refine hC9 ?_
      clear hC9 C9
      have off3 := off'.mem
      by_cases hlt : i < n
      · refine W.item i _ _ _ hlt hst' fun v h₂ tk₂ hPv hst₂ hk₂ => ?_
        have N₂ : News h₀ L h₂ ((D, lst ys) :: news') := news_but N' hk₂ fun p hp => by
          rcases List.mem_cons.mp hp with rfl | hp
          · exact Ne.symm hDI
          · exact (off3 p hp).1
        refine takes i v h₂ tk₂ m' C D ys news' _ _ hlt hPv hst₂ hJ' N₂ (hn'.at' fun o e => hk₂ _ o (by simpa using Ne.symm hCI) e) fun h₃ tk₃ m₃ hn₃ hX hs₃ => ?_
        have hst₃ : St (i + 1) h₃ := W.frame _ _ _ hst₂ fun b hb o e => hs₃ b o (fun q => hCf (by rw [← q]; exact hb)) e
        obtain ⟨oI, heI⟩ := hIo _ _ hst₃
        obtain ⟨oC, heC, hoC⟩ := ns_obj hn₃
        have hns3 : h₃.Ns C m₃ := hn₃
        have F₂ : Fr h₀ L h₂ m := fr_but F' hk₂ hIL hI₀
        have F₃ : Fr h₀ L h₃ m := ⟨F₂.ns.at' fun o e => hs₃ _ o (Ne.symm hCL) e, fun b o e => hs₃ b o (fun q => by rw [q, hC₀] at e; cases e) (F₂.keep b o e), F₂.above⟩
        have N₃ : News h₀ L h₃ ((I, oI) :: (C, oC) :: (D, lst ys) :: news') := fun p hp => by
          rcases List.mem_cons.mp hp with rfl | hp
          · exact ⟨heI, Ne.symm hIL, hI₀⟩
          · rcases List.mem_cons.mp hp with rfl | hp
            · exact ⟨heC, hCL, hC₀⟩
            · have z := N₂ p hp
              refine ⟨hs₃ _ _ ?_ z.1, z.2⟩
              rcases List.mem_cons.mp hp with rfl | hp
              · exact hDC
              · exact (off3 p hp).2.1
        have fin : ∀ (s₄ : Shared) (zs : List Value), CEnd h₀ L m { s₂ with heap := h₃, toks := tk₃ } I oI C oC D (lst ys) (J (i + 1) zs) s₄ → ∃ h₄ tk₄ news₄, s₄ = { s₂ with heap := h₄, toks := tk₄ } ∧ Fr h₀ L h₄ m ∧ h₄.get? D = some (lst ys) ∧ h₄.Ns C m₃ ∧ News h₀ L h₄ news₄ ∧ Off3 I C D news₄ ∧ St (i + 1) h₄ ∧ J (i + 1) zs news₄ := by
          rintro s₄ zs hX9
          refine cps ?_
          intro C9 hC9
          obtain ⟨h₄, tk₄, news₄, rfl, F₄, N₄, off₄, hJ₄⟩ := hX9
          refine hC9 ?_
          clear hC9 C9
          have zI := (N₄ (I, oI) List.mem_cons_self).1
          have zC := (N₄ (C, oC) (List.mem_cons_of_mem _ List.mem_cons_self)).1
          have zD := (N₄ (D, lst ys) (List.mem_cons_of_mem _ (List.mem_cons_of_mem _ List.mem_cons_self))).1
          have N₄' : News h₀ L h₄ news₄ := fun p hp => N₄ p (List.mem_cons_of_mem _ (List.mem_cons_of_mem _ (List.mem_cons_of_mem _ hp)))
          exact ⟨h₄, tk₄, news₄, rfl, F₄, zD, hoC.ns zC, N₄', off₄, hSt _ _ _ _ _ _ _ hst₃ heI zI F₄.keep N₄' hJ₄, hJ₄⟩
        refine wpAny_mono (turn i v ys news' I oI C oC D _ h₃ tk₃ _ hlt hPv hJ' hoC hX F₃ N₃ off' ⟨hCI, hDI, Ne.symm hDC⟩) (fun ok s₄ q₄ => ?_) fun _ _ e => e
        cases ok with
        | false =>
          simp only [Bool.false_eq_true, if_false] at q₄ ⊢
          refine cps ?_
          intro C9 hC9
          obtain ⟨h₄, tk₄, news₄, rfl, F₄, zD, zC, N₄', off₄, hst₄, hJ₄⟩ := fin _ _ q₄
          refine hC9 ?_
          clear hC9 C9
          refine ⟨n + 1 - (i + 1), by omega, h₄, tk₄, i + 1, ys, _, news₄, rfl, hlt, rfl, by omega, hst₄, F₄, zC, fun p hp => ?_, off₄, hJ₄⟩
          rcases List.mem_cons.mp hp with rfl | hp
          · exact ⟨zD, hDL, hD₀⟩
          · exact N₄' p hp
        | true =>
          simp only [if_true] at q₄ ⊢
          refine wpAny_mono q₄ (fun y s₄ q₅ => ?_) fun _ _ e => e
          refine cps ?_
          intro C9 hC9
          obtain ⟨h₄, tk₄, news₄, rfl, F₄, zD, zC, N₄', off₄, hst₄, hJ₄⟩ := fin _ _ q₅
          refine hC9 ?_
          clear hC9 C9
          refine append_at (hsz := by show ys.toArray.size ≤ sizeLine; rw [List.size_toArray]; exact Nat.le_trans hyl (Nat.le_trans hi hsz)) zD fun h₅ hs₅ hD₅ => ?_
          have off4 := off₄.mem
          refine ⟨n + 1 - (i + 1), by omega, h₅, tk₄, i + 1, ys ++ [y], _, news₄, rfl, hlt, rfl, by rw [List.length_append, List.length_singleton]; omega, W.frame _ _ _ hst₄ fun b hb o e => hs₅.extBut b o (fun q => hDf (q ▸ hb)) e, F₄.change hs₅ hDL hD₀,
            zC.sameBut hs₅ (Ne.symm hDC), fun p hp => ?_, off₄, hJ₄⟩
          rcases List.mem_cons.mp hp with rfl | hp
          · exact ⟨hD₅.trans (congrArg some (lst_snoc ys y)), hDL, hD₀⟩
          · exact ⟨hs₅.extBut _ _ (off4 p hp).2.2 (N₄' p hp).1, (N₄' p hp).2⟩
      · obtain rfl : i = n := Nat.le_antisymm hi (Nat.not_lt.mp hlt)
        refine W.done _ _ _ hst' fun h₂ tk₂ hk₂ => ?_
        exact hRR _ _ h₂ tk₂ _ ys news' (fr_but F' hk₂ hIL hI₀) (news_but N' hk₂ fun p hp => by
          rcases List.mem_cons.mp hp with rfl | hp
          · exact Ne.symm hDI
          · exact (off3 p hp).1) off'.one (hn'.at' fun o e => hk₂ _ o (by simpa using Ne.symm hCI) e) hC₀ hD₀ hCL hDL (Ne.symm hDC) (fun p hp => (off3 p hp).2.1) hJ'
    · rcases List.mem_cons.mp hp with rfl | hp
      · exact ⟨hacc, hDL, hD₀⟩
      · exact ⟨old _ _ (N p hp).1, (N p hp).2⟩
  exact codeAny_compStart_list (loop _ rfl) (W.self 0 _ _ _ hst₁ (loop _ rfl))
end

section
variable {prog : Program} {w : World} {A : Around} {E : Value → Shared → Prop} {s : Shared} {h₀ : Heap} {L : Addr} {m : Str → Option Value} {env : Env}
theorem takes_name {x : Str} {px : Pos} {scope : Scope} {cl : List (Str × Addr)} {I : Addr} {s₂ : Shared} {n : Nat} {P : Nat → Value → Prop} {St : Nat → Heap → Prop} {J : Nat → List Value → List (Addr × Obj) → Prop} (hkind : scope.kind = .function) (hx : scope.names.lookup x = some .local) :
    TakesX prog w A h₀ L env (.Name x px) scope cl I s₂ n P St (fun _ v m => m x = some v) J := by
  intro i v h tk m' C D ys nw Q E' hi hP hst hJ N hn hQ
  refine wpAny_of_eq (rfl : letOwnedTupleGo (.Name x px) (.ref I) v = pure ()) ?_
  exact wpAny_assign_Name (wpAny_storeName_local (lookup_relabel_local hx) hn (fun h₃ hn₃ hs₃ => hQ _ _ _ hn₃ (by simp) hs₃.extBut) (by simp [compEnvC, relabel, hkind]))
theorem takes_pair {x x₂ : Str} {px px₂ tp : Pos} {tk} {scope : Scope} {cl : List (Str × Addr)} {I ax : Addr} {its : Array Value} {s₂ : Shared} {n : Nat} {P : Nat → Value → Prop} {J : Nat → List Value → List (Addr × Obj) → Prop} {Y : Nat → Value → Value → Prop} (hh : A.handled = none) (hkind : scope.kind = .function) (hx : scope.names.lookup x = some .local) (hx₂ : scope.names.lookup x₂ = some .local) (hxx : x ≠ x₂)
    (hT : ∀ i v ys nw, i < n → P i v → J i ys nw → ∃ (t : Addr) (ot : Obj) (v₁ v₂ : Value) (nt : Nat), v = .ref t ∧ (t, ot) ∈ nw ∧ ot.cls = .type "tuple" ∧ ot.data = .seq #[v₁, v₂] nt ∧ Y i v₁ v₂) :
    TakesX prog w A h₀ L env (.Tuple [.Name x px, .Name x₂ px₂] tk tp) scope cl I s₂ n P (fun i h => h.IsListIter I ax i ∧ h.IsList ax its) (fun i _ m => ∃ v₁ v₂, Y i v₁ v₂ ∧ m x = some v₁ ∧ m x₂ = some v₂) J := by
  intro i v h tk m' C D ys nw Q E' hi hP hst hJ N hn hQ
  refine cps ?_
  intro C9 hC9
  obtain ⟨t, ot, v₁, v₂, nt, rfl, hmt, hct, hdt, hY⟩ := hT i v ys nw hi hP hJ
  refine hC9 ?_
  clear hC9 C9
  have ht : IsTup h t #[v₁, v₂] := ⟨ot, (N _ (List.mem_cons_of_mem _ hmt)).1, hct, nt, hdt⟩
  refine wpAny_letOwnedTupleGo_listiter hst.1 ?_
  refine assign_Tuple_tuple hh ht rfl rfl fun h₅ he => ?_
  have he' : ∀ b o, h.get? b = some o → h₅.get? b = some o := fun b o e => he b o (Nat.ne_of_lt (Heap.lt_size e)) e
  refine assignInOrder_cons (wpAny_assign_Name (wpAny_storeName_local (lookup_relabel_local hx) (hn.at' fun o e => he' _ o e) (fun h₆ hn₆ hs₆ => ?_) (by simp [compEnvC, relabel, hkind])))
  refine assignInOrder_cons (wpAny_assign_Name (wpAny_storeName_local (lookup_relabel_local hx₂) hn₆ (fun h₃ hn₃ hs₃ => ?_) (by simp [compEnvC, relabel, hkind])))
  refine assignInOrder_nil ?_
  exact hQ _ _ _ hn₃ ⟨v₁, v₂, hY, by simp [hxx], by simp⟩ fun b o hb e => hs₃.extBut b o hb (hs₆.extBut b o hb (he' b o e))
theorem takes_three {x x₂ x₃ : Str} {px px₂ px₃ tp : Pos} {tk} {scope : Scope} {cl : List (Str × Addr)} {I ax : Addr} {its : Array Value} {s₂ : Shared} {n : Nat} {P : Nat → Value → Prop} {J : Nat → List Value → List (Addr × Obj) → Prop} {Y : Nat → Value → Value → Value → Prop} (hh : A.handled = none) (hkind : scope.kind = .function) (hx : scope.names.lookup x = some .local) (hx₂ : scope.names.lookup x₂ = some .local) (hx₃ : scope.names.lookup x₃ = some .local) (hxx : x ≠ x₂) (hxx₃ : x ≠ x₃) (hxx₂₃ : x₂ ≠ x₃)
    (hT : ∀ i v ys nw, i < n → P i v → J i ys nw → ∃ (t : Addr) (ot : Obj) (v₁ v₂ v₃ : Value) (nt : Nat), v = .ref t ∧ (t, ot) ∈ nw ∧ ot.cls = .type "tuple" ∧ ot.data = .seq #[v₁, v₂, v₃] nt ∧ Y i v₁ v₂ v₃) :
    TakesX prog w A h₀ L env (.Tuple [.Name x px, .Name x₂ px₂, .Name x₃ px₃] tk tp) scope cl I s₂ n P (fun i h => h.IsListIter I ax i ∧ h.IsList ax its) (fun i _ m => ∃ v₁ v₂ v₃, Y i v₁ v₂ v₃ ∧ m x = some v₁ ∧ m x₂ = some v₂ ∧ m x₃ = some v₃) J := by
  intro i v h tk m' C D ys nw Q E' hi hP hst hJ N hn hQ
  refine cps ?_
  intro C9 hC9
  obtain ⟨t, ot, v₁, v₂, v₃, nt, rfl, hmt, hct, hdt, hY⟩ := hT i v ys nw hi hP hJ
  refine hC9 ?_
  clear hC9 C9
  have ht : IsTup h t #[v₁, v₂, v₃] := ⟨ot, (N _ (List.mem_cons_of_mem _ hmt)).1, hct, nt, hdt⟩
  refine wpAny_letOwnedTupleGo_listiter hst.1 ?_
  refine assign_Tuple_tuple hh ht rfl rfl fun h₅ he => ?_
  have he' : ∀ b o, h.get? b = some o → h₅.get? b = some o := fun b o e => he b o (Nat.ne_of_lt (Heap.lt_size e)) e
  refine assignInOrder_cons (wpAny_assign_Name (wpAny_storeName_local (lookup_relabel_local hx) (hn.at' fun o e => he' _ o e) (fun h₆ hn₆ hs₆ => ?_) (by simp [compEnvC, relabel, hkind])))
  refine assignInOrder_cons (wpAny_assign_Name (wpAny_storeName_local (lookup_relabel_local hx₂) hn₆ (fun h₇ hn₇ hs₇ => ?_) (by simp [compEnvC, relabel, hkind])))
  refine assignInOrder_cons (wpAny_assign_Name (wpAny_storeName_local (lookup_relabel_local hx₃) hn₇ (fun h₃ hn₃ hs₃ => ?_) (by simp [compEnvC, relabel, hkind])))
  refine assignInOrder_nil ?_
  exact hQ _ _ _ hn₃ ⟨v₁, v₂, v₃, hY, by simp [hxx, hxx₃], by simp [hxx₂₃], by simp⟩ fun b o hb e => hs₃.extBut b o hb (hs₇.extBut b o hb (hs₆.extBut b o hb (he' b o e)))
/-- where the items come from, and what a turn does: a list -/
noncomputable def SrcLX (prog : Program) (w : World) (A : Around) (h₀ : Heap) (L : Addr) (m : Str → Option Value) (env : Env) (elt tg : Expr) (ifs : List Expr) (scope : Scope) (cl : List (Str × Addr)) (Fin : Shared → List Value → List (Addr × Obj) → Prop) (xv : Value) (s₁ : Shared) : Prop :=
  ∃ ax its nw X J, xv = .ref ax ∧ A.handled = none ∧ Fr h₀ L s₁.heap m ∧ News h₀ L s₁.heap nw ∧ (∀ i ys nw, J i ys nw → SrcAt h₀ ax its nw) ∧ its.size ≤ sizeLine ∧ J 0 [] nw ∧
    (∀ s₂ : Shared, (∃ h, s₂ = { s₁ with heap := h }) → (∀ I, TakesX prog w A h₀ L env tg scope cl I s₂ its.size (fun i v => its[i]? = some v) (fun i h => h.IsListIter I ax i ∧ h.IsList ax its) X J) ∧ TurnX prog w A h₀ L m env elt ifs scope cl s₂ its.size (fun i v => its[i]? = some v) X J ∧ ∀ ys nw', J its.size ys nw' → Fin s₂ ys nw')
/-- the same: a range -/
noncomputable def SrcRX (prog : Program) (w : World) (A : Around) (h₀ : Heap) (L : Addr) (m : Str → Option Value) (env : Env) (elt tg : Expr) (ifs : List Expr) (scope : Scope) (cl : List (Str × Addr)) (Fin : Shared → List Value → List (Addr × Obj) → Prop) (xv : Value) (s₁ : Shared) : Prop :=
  ∃ r a b t u v n nw X J, xv = .ref r ∧ A.handled = none ∧ Fr h₀ L s₁.heap m ∧ News h₀ L s₁.heap nw ∧ IsRange s₁.heap r a b 1 t u v ∧ Builtin.Range.small a b 1 = true ∧ Builtin.Range.rangeSize a b 1 = ((n : Nat) : Int) ∧ n ≤ sizeLine ∧ J 0 [] nw ∧
    (∀ s₂ : Shared, (∃ h, s₂ = { s₁ with heap := h }) → (∀ I, TakesX prog w A h₀ L env tg scope cl I s₂ n (fun i v => ∃ t, v = .int (a + (i : Int)) t) (fun i h => IsRangeIter h I (a + (i : Nat) * 1) ((n : Int) - (i : Nat)) 1) X J) ∧ TurnX prog w A h₀ L m env elt ifs scope cl s₂ n (fun i v => ∃ t, v = .int (a + (i : Int)) t) X J ∧ ∀ ys nw', J n ys nw' → Fin s₂ ys nw')
noncomputable def SrcX (prog : Program) (w : World) (A : Around) (h₀ : Heap) (L : Addr) (m : Str → Option Value) (env : Env) (elt tg : Expr) (ifs : List Expr) (scope : Scope) (cl : List (Str × Addr)) (Fin : Shared → List Value → List (Addr × Obj) → Prop) (xv : Value) (s₁ : Shared) : Prop :=
  SrcLX prog w A h₀ L m env elt tg ifs scope cl Fin xv s₁ ∨ SrcRX prog w A h₀ L m env elt tg ifs scope cl Fin xv s₁
theorem srcX_list {elt tg : Expr} {ifs : List Expr} {scope : Scope} {cl : List (Str × Addr)} {Fin : Shared → List Value → List (Addr × Obj) → Prop} {ax : Addr} {its : Array Value} {nw : List (Addr × Obj)} {s₁ : Shared} (X : Nat → Value → (Str → Option Value) → Prop) (J : Nat → List Value → List (Addr × Obj) → Prop)
    (hh : A.handled = none) (F : Fr h₀ L s₁.heap m) (N : News h₀ L s₁.heap nw) (hS : ∀ i ys nw, J i ys nw → SrcAt h₀ ax its nw) (hsz : its.size ≤ sizeLine) (h0 : J 0 [] nw)
    (ht : ∀ g I, TakesX prog w A h₀ L env tg scope cl I { s₁ with heap := g } its.size (fun i v => its[i]? = some v) (fun i h => h.IsListIter I ax i ∧ h.IsList ax its) X J)
    (hu : ∀ g, TurnX prog w A h₀ L m env elt ifs scope cl { s₁ with heap := g } its.size (fun i v => its[i]? = some v) X J) (hf : ∀ g ys nw', J its.size ys nw' → Fin { s₁ with heap := g } ys nw') : SrcX prog w A h₀ L m env elt tg ifs scope cl Fin (.ref ax) s₁ :=
  .inl ⟨ax, its, nw, X, J, rfl, hh, F, N, hS, hsz, h0, fun _ ⟨g, e⟩ => e ▸ ⟨ht g, hu g, hf g⟩⟩
theorem srcX_range {elt tg : Expr} {ifs : List Expr} {scope : Scope} {cl : List (Str × Addr)} {Fin : Shared → List Value → List (Addr × Obj) → Prop} {r : Addr} {a b : Int} {t u v : Tok} {nw : List (Addr × Obj)} {s₁ : Shared} (n : Nat) (X : Nat → Value → (Str → Option Value) → Prop) (J : Nat → List Value → List (Addr × Obj) → Prop)
    (hh : A.handled = none) (F : Fr h₀ L s₁.heap m) (N : News h₀ L s₁.heap nw) (hr : IsRange s₁.heap r a b 1 t u v) (hsm : Builtin.Range.small a b 1 = true) (hn : Builtin.Range.rangeSize a b 1 = ((n : Nat) : Int)) (hsz : n ≤ sizeLine) (h0 : J 0 [] nw)
    (ht : ∀ g I, TakesX prog w A h₀ L env tg scope cl I { s₁ with heap := g } n (fun i v => ∃ t, v = .int (a + (i : Int)) t) (fun i h => IsRangeIter h I (a + (i : Nat) * 1) ((n : Int) - (i : Nat)) 1) X J)
    (hu : ∀ g, TurnX prog w A h₀ L m env elt ifs scope cl { s₁ with heap := g } n (fun i v => ∃ t, v = .int (a + (i : Int)) t) X J) (hf : ∀ g ys nw', J n ys nw' → Fin { s₁ with heap := g } ys nw') : SrcX prog w A h₀ L m env elt tg ifs scope cl Fin (.ref r) s₁ :=
  .inr ⟨r, a, b, t, u, v, n, nw, X, J, rfl, hh, F, N, hr, hsm, hn, hsz, h0, fun _ ⟨g, e⟩ => e ▸ ⟨ht g, hu g, hf g⟩⟩
theorem srcX_go {elt tg iter : Expr} {ifs : List Expr} {scope : Scope} {cl : List (Str × Addr)} {pos : Pos} {Fin : Shared → List Value → List (Addr × Obj) → Prop} {RR : Value → Addr → Result → Shared → Prop} {xv : Value} {s₁ : Shared}
    (hcell : ∀ y ∈ scope.names, y.2 ≠ .cell) (hkind : scope.kind = .function) (h : SrcX prog w A h₀ L m env elt tg ifs scope cl Fin xv s₁)
    (hRR : ∀ s₂ D C h tk m' ys news', Fr h₀ L h m → News h₀ L h ((D, lst ys) :: news') → Off1 D news' → h.Ns C m' → h₀.get? C = none → h₀.get? D = none → C ≠ L → D ≠ L → C ≠ D → (∀ p ∈ news', p.1 ≠ C) → Fin s₂ ys news' → RR (.ref D) C (.ok .next) { s₂ with heap := h, toks := tk }) :
    wpAny (model prog w) A (pyIter xv) (fun it s₂ => wpAny (model prog w) A (newList []) (fun acc s₃ => wpAny (model prog w) A (newFunctionEnv scope env.globals cl [] env.qual none .none (some env)) (fun cenv s₄ =>
      codeAny (model prog w) A (.compStart (.ListComp elt [⟨tg, iter, ifs, 0⟩] scope pos) 0 it acc { cenv with scope := relabel scope env }) (RR acc cenv.locals) s₄) E s₃) E s₂) E s₁ := by
  rcases h with ⟨ax, its, nw, X, J, rfl, hh, F, N, S, hsz, h0, R⟩ | ⟨r, a, b, t, u, v, n, nw, X, J, rfl, hh, F, N, hr, hsm, hn, hsz, h0, R⟩
  · have hl := (S _ _ _ h0).list F.keep N
    have hlt : ax < s₁.heap.objs.size := by obtain ⟨_, e, _⟩ := hl; exact Heap.lt_size e
    refine wpAny_pyIter_list hl ?_
    have up : ∀ b o, s₁.heap.get? b = some o → (s₁.heap.push { cls := .type "list_iterator", data := .fields #[.ref ax, .int 0 0] }).get? b = some o := fun b o e => Heap.get?_push_of_some _ e
    obtain ⟨hT, hU, hF⟩ := R { s₁ with heap := s₁.heap.push { cls := .type "list_iterator", data := .fields #[.ref ax, .int 0 0] } } ⟨_, rfl⟩
    refine blockX (X := X) (J := J) (Walks.list hh s₁.heap.objs.size ax (Nat.ne_of_lt hlt) its) hsz (fun i h st => by obtain ⟨o, e, _⟩ := st.1; exact ⟨o, e⟩) (fun j ys i h h' o nw st e e' k N j => list_st i h h' o nw st e e' k N (S _ _ _ j)) hcell hkind ⟨⟨_, Heap.get?_push_size _ rfl, rfl, rfl⟩, hl.push _⟩ (fun b hb => ?_)
      (F.keeps up) (N.grown up) (Nat.ne_of_lt F.ns.lt) (next_is_new F) (fun p hp => Nat.ne_of_lt (Heap.lt_size (N p hp).1)) h0 (hT _) hU ?_
    · show b < (s₁.heap.push _).objs.size
      rw [Heap.size_push]
      rcases List.mem_cons.mp hb with rfl | hb
      · exact Nat.lt_succ_self _
      · rw [List.mem_singleton.mp hb]; exact Nat.lt_succ_of_lt hlt
    · exact fun D C h tk m' ys news' F' N' o1 hn hC₀ hD₀ hCL hDL hCD offC j => hRR _ D C h tk m' ys news' F' N' o1 hn hC₀ hD₀ hCL hDL hCD offC (hF _ _ j)
  · refine wpAny_pyIter_range hr hsm ?_
    have push : ∀ o b o', s₁.heap.get? b = some o' → (s₁.heap.push o).get? b = some o' := fun _ _ _ e => Heap.get?_push_of_some _ e
    refine blockX (X := X) (J := J) (range_walks hh a n) hsz (fun i h st => ⟨_, st⟩) (fun j ys i h h' o nw st e e' k N j => range_st i h h' o nw st e e' k N trivial) hcell hkind (by show IsRangeIter _ _ _ _ _; rw [hn]; simpa using Heap.get?_push_size _ rfl) (fun b hb => ?_)
      (F.keeps (push _)) (N.grown (push _)) (Nat.ne_of_lt F.ns.lt) (next_is_new F) (fun p hp => Nat.ne_of_lt (Heap.lt_size (N p hp).1)) h0 ((R _ ⟨_, rfl⟩).1 _) (R _ ⟨_, rfl⟩).2.1 ?_
    · rw [List.mem_singleton.mp hb]
      show s₁.heap.objs.size < (s₁.heap.push _).objs.size
      rw [Heap.size_push]; exact Nat.lt_succ_self _
    · exact fun D C h tk m' ys news' F' N' o1 hn hC₀ hD₀ hCL hDL hCD offC j => hRR _ D C h tk m' ys news' F' N' o1 hn hC₀ hD₀ hCL hDL hCD offC ((R _ ⟨_, rfl⟩).2.2 _ _ j)
theorem ListComp_X {elt tg iter : Expr} {ifs : List Expr} {scope : Scope} {cl : List (Str × Addr)} {pos : Pos} {Q : Value → Shared → Prop} (F₀ : Fr h₀ L s.heap m)
    (hclos : closureFor scope env = pure cl) (hcell : ∀ y ∈ scope.names, y.2 ≠ .cell) (hkind : scope.kind = .function) (hnames : ∀ y ∈ scope.names, y.2 = .local → scope.names.lookup y.1 = some .local)
    (h : wpAny (model prog w) A (eval iter env) (SrcX prog w A h₀ L m env elt tg ifs scope cl (fun s₂ => FinE h₀ L m s₂ Q)) E s)
    (hs : ∀ x, foldedSetIterable iter env x = pure x := by intro _; rfl) :
    wpAny (model prog w) A (eval (.ListComp elt [⟨tg, iter, ifs, 0⟩] scope pos) env) Q E s := by
  rw [eval_ListComp]
  refine wpAny_comprehension_free (use := none) rfl hs hclos hkind hnames (wpAny_mono h (fun xv s₁ h₁ => ?_) fun _ _ e => e)
  refine srcX_go hcell hkind h₁ ?_
  intro s₂ D C h tk m' ys news' F' N' o1 hn hC₀ hD₀ hCL hDL hCD offC fin
  refine ⟨m', hn, fun h'' hs'' => fin D h'' tk (F'.change hs'' hCL hC₀) (fun p hp => ?_) o1⟩
  refine ⟨hs''.extBut _ _ ?_ (N' p hp).1, (N' p hp).2⟩
  rcases List.mem_cons.mp hp with rfl | hp
  · exact Ne.symm hCD
  · exact offC p hp
theorem Assign_ListComp_X {elt tg iter : Expr} {ifs : List Expr} {y : Str} {py : Pos} {scope : Scope} {cl : List (Str × Addr)} {pos spos : Pos} {Q : Flow → Shared → Prop} (F₀ : Fr h₀ L s.heap m) (hLe : env.locals = L)
    (hsw : swapsWith (.ListComp elt [⟨tg, iter, ifs, 0⟩] scope pos) (some (.Name y py)) spos.line env = pure true)
    (hclos : closureFor scope env = pure cl) (hcell : ∀ z ∈ scope.names, z.2 ≠ .cell) (hkind : scope.kind = .function)
    (hnames : ∀ z ∈ scope.names, z.2 = .local → scope.names.lookup z.1 = some .local)
    (hy : env.kindOf y = some .local) (hp : (env.scope.kind == .class || (env.scope.kind == .module && env.locals != env.globals)) = false)
    (h : wpAny (model prog w) A (eval iter env) (SrcX prog w A h₀ L m env elt tg ifs scope cl (fun s₂ => FinA h₀ L m s₂ y Q)) E s)
    (hs : ∀ x, foldedSetIterable iter env x = pure x := by intro _; rfl) :
    wpAny (model prog w) A (exec (.Assign [.Name y py] (.ListComp elt [⟨tg, iter, ifs, 0⟩] scope pos) spos) env) Q E s := by
  subst hLe
  rw [exec_Assign_Name_used _ _ _ _ hsw]
  refine wpAny_bind (wpAny_standAt (wpAny_bind ?_))
  show wpAny _ A (do let _ ← comprehension (.ListComp elt [⟨tg, iter, ifs, 0⟩] scope pos) scope env _ (newList []) false (eval iter env) (some (assign (.Name y py) env))) _ _ s
  refine wpAny_bind (wpAny_mono (wpAny_comprehension_free (use := some (assign (.Name y py) env)) (Q := fun _ s' => Q .next s') rfl hs hclos hkind hnames
    (wpAny_mono h (fun xv s₁ h₁ => ?_) fun _ _ e => e)) (fun _ s' hq => wpAny_pure (wpAny_pure hq)) fun _ _ e => e)
  refine srcX_go hcell hkind h₁ ?_
  intro s₂ D C h' tk m' ys news' F' N' o1 hn hC₀ hD₀ hCL hDL hCD offC fin
  show wpAny _ A (assign (.Name y py) env (.ref D)) _ _ _
  refine wpAny_assign_Name (wpAny_storeName_local hy F'.ns (fun h₂ hn₂ hs₂ => ?_) hp)
  have hL₀ : h₀.get? env.locals = none := Heap.get?_none_of_le F'.above
  have F₂ : Fr h₀ env.locals h₂ (fun z => if z = y then some (.ref D) else m z) := ⟨hn₂, fun b o e => hs₂.extBut b o (fun q => by rw [q, hL₀] at e; cases e) (F'.keep b o e), F'.above⟩
  refine ⟨m', hn.sameBut hs₂ hCL, fun h'' hs'' => fin D h'' _ (F₂.change hs'' hCL hC₀) (fun p hp => ?_) o1⟩
  have z : h₂.get? p.1 = some p.2 := hs₂.extBut _ _ (N' p hp).2.1 (N' p hp).1
  refine ⟨hs''.extBut _ _ ?_ z, (N' p hp).2⟩
  rcases List.mem_cons.mp hp with rfl | hp
  · exact Ne.symm hCD
  · exact offC p hp
end
end Mine
end
section
open PySem PySem.W PyProof.Rows
namespace Mine
theorem fresh_LD : True := by
  k_with_none
  w_top off
  trivial
noncomputable abbrev defOf {q : Program} {loose : List Str} {XP : (Str → Option Value) → Heap → Prop} {YP : World → Heap → Prop} {r : RowW} {d : DefRec} {kwd : List (Str × Expr)} {run : Value → List Value → Sem Value} (_ : WalkO q loose XP YP r d kwd run → PySem.Challenge.rw_pe0179_01.Holds) : DefRec := d
noncomputable abbrev lawDef : DefRec := defOf hd
noncomputable abbrev lawEnv (L fa : Addr) (cd : Value) : Env := envOfC (Str.ofString "law") lawDef.scope L fa cd
noncomputable abbrev lawA (L fa : Addr) (cd : Value) : Around := callerA.deeper (lawEnv L fa cd)
noncomputable abbrev lawE (w : World) (L fa : Addr) (cd : Value) (Ea Eb : Value → Shared → Prop) (e : Value) (s' : Shared) : Prop :=
  wpAny (model Challenge.rw_pe0179_01.row.prog w) (callerA.deeper (lawEnv L fa cd)) (leaving (lawEnv L fa cd) e) (fun _ s'' => Ea e s'') Eb s'
theorem cutE {prog : Program} {w : World} {A : Around} {a b : List Stmt} {env : Env} {Q : Flow → Shared → Prop} {E : Value → Shared → Prop} {s : Shared} (e : a = b) (h : wpAny (model prog w) A (execs b env) Q E s) : wpAny (model prog w) A (execs a env) Q E s := e ▸ h
theorem fr1 {h₀ h : Heap} {L : Addr} {M : Str → Option Value} (F : Fr h₀ L h M) {a : Str} {v : Value} (h1 : M a = some v) : Fr h₀ L h (fun y => if y = a then some v else M y) := by
  have e : M = (fun y => if y = a then some v else M y) := by
    funext z
    by_cases q : z = a
    · rw [if_pos q, q, h1]
    · rw [if_neg q]
  rw [← e]; exact F
end Mine
end
section
open PySem PySem.W PyProof.Rows PySem.Calls PyProof.Rows.LCg
namespace Mine
theorem fresh_LX : True := by
  k_with_none
  w_top off
  trivial
theorem sub_news {g h : Heap} {L : Addr} {l l' : List (Addr × Obj)} (N : News g L h l) (hs : ∀ p ∈ l', p ∈ l) : News g L h l' := fun p hp => N p (hs p hp)
theorem cend_same {h₀ h' : Heap} {L : Addr} {m : Str → Option Value} {s₁ : Shared} {I : Addr} {oI : Obj} {C : Addr} {oC : Obj} {D : Addr} {oD : Obj} {J : List (Addr × Obj) → Prop} {nw led : List (Addr × Obj)} {tk : Nat}
    (F : Fr h₀ L h' m) (N : News h₀ L h' led) (hs : ∀ p ∈ (I, oI) :: (C, oC) :: (D, oD) :: nw, p ∈ led) (off : Off3 I C D nw) (hJ : J nw) : CEnd h₀ L m s₁ I oI C oC D oD J { s₁ with heap := h', toks := tk } :=
  ⟨h', tk, nw, rfl, F, sub_news N hs, off, hJ⟩
section
variable {prog : Program} {w : World} {A : Around} {E : Value → Shared → Prop} {s : Shared} {h₀ : Heap} {L : Addr} {m : Str → Option Value} {env : Env}
/-- a turn that keeps the ledger -/
noncomputable def TurnS (prog : Program) (w : World) (A : Around) (h₀ : Heap) (L : Addr) (m : Str → Option Value) (env : Env) (elt : Expr) (ifs : List Expr) (scope : Scope) (cl : List (Str × Addr)) (s₁ : Shared) (nw : List (Addr × Obj)) (X : (Str → Option Value) → Prop) (ys : List Value) (Yes : Value → Prop) (No : Prop) : Prop :=
  ∀ I oI C oC D m₂ h tk (E' : Value → Shared → Prop), NsObj oC m₂ → X m₂ → Fr h₀ L h m → News h₀ L h ((I, oI) :: (C, oC) :: (D, lst ys) :: nw) → Off3 I C D nw → ((@Ne Nat I C) ∧ (@Ne Nat I D) ∧ (@Ne Nat C D)) →
    TstX prog w A ifs (compEnvC scope cl C env) (fun ok s₃ => if ok = true then wpAny (model prog w) A (eval elt (compEnvC scope cl C env)) (fun y s₄ => CEnd h₀ L m { s₁ with heap := h, toks := tk } I oI C oC D (lst ys) (fun nw' => nw' = nw ∧ Yes y) s₄) E' s₃
      else CEnd h₀ L m { s₁ with heap := h, toks := tk } I oI C oC D (lst ys) (fun nw' => nw' = nw ∧ No) s₃) E' { s₁ with heap := h, toks := tk }
theorem filt_yes {p : Int → Bool} {ns : List Int} {i : Nat} {r : Int} (hi : ns[i]? = some r) (hp : p r = true) : (ns.take (i + 1)).filter p = (ns.take i).filter p ++ [r] := by
  rw [List.take_add_one, hi, Option.toList_some, List.filter_append]; (first | walk_at "subm" | simp [hp])
theorem filt_no {p : Int → Bool} {ns : List Int} {i : Nat} {r : Int} (hi : ns[i]? = some r) (hp : p r = false) : (ns.take (i + 1)).filter p = (ns.take i).filter p := by
  rw [List.take_add_one, hi, Option.toList_some, List.filter_append]; (first | walk_at "subm" | simp [hp])
theorem srcX_ints {x : Str} {px : Pos} {elt : Expr} {ifs : List Expr} {scope : Scope} {cl : List (Str × Addr)} {Fin : Shared → List Value → List (Addr × Obj) → Prop} {ax : Addr} {vs : List Value} {ns : List Int} {n : Nat} {nw : List (Addr × Obj)} {s₁ : Shared} (p : Int → Bool) (R : List Value → List Int → Prop)
    (hh : A.handled = none) (F : Fr h₀ L s₁.heap m) (N : News h₀ L s₁.heap nw) (hm : (ax, listOf vs.toArray n) ∈ nw) (hI : IntsAre vs ns) (hsz : ns.length ≤ sizeLine) (hkind : scope.kind = .function) (hx : scope.names.lookup x = some .local) (h0 : R [] [])
    (turn : ∀ r t ys pre, r ∈ ns → R ys pre → TurnS prog w A h₀ L m env elt ifs scope cl s₁ nw (fun m₂ => m₂ x = some (.int r t)) ys (fun y => p r = true ∧ R (ys ++ [y]) (pre ++ [r])) (p r = false))
    (fin : ∀ g ys, R ys (ns.filter p) → Fin { s₁ with heap := g } ys nw) : SrcX prog w A h₀ L m env elt (.Name x px) ifs scope cl Fin (.ref ax) s₁ := by
  have hsz' : vs.toArray.size = ns.length := by rw [List.size_toArray, hI.length]
  refine srcX_list (its := vs.toArray) (nw := nw) (fun _ v m₂ => m₂ x = some v) (fun i ys nw' => nw' = nw ∧ R ys ((ns.take i).filter p)) hh F N (fun i ys nw' h => .inr ⟨_, h.1 ▸ hm, rfl, _, rfl⟩) (by rw [hsz']; exact hsz) ⟨rfl, by simpa using h0⟩ (fun g I => takes_name hkind hx) (fun g => ?_) (fun g ys nw' h => ?_)
  · rintro i v ys nw' I oI C oC D m₂ h tk E' hi hv ⟨rfl, hR⟩ hC hX F₁ N₁ off hne
    refine cps ?_
    intro C9 hC9
    obtain ⟨r, t, e, hr⟩ := IntsAre.at hI i v (by simpa using hv)
    refine hC9 ?_
    clear hC9 C9
    subst e
    refine wpAny_mono (turn r t ys _ (List.mem_of_getElem? hr) hR I oI C oC D m₂ h tk E' hC hX F₁ N₁ off hne) (fun ok s₃ q => ?_) fun _ _ e => e
    cases ok with
    | true =>
      simp only [if_true] at q ⊢
      refine wpAny_mono q (fun y s₄ ⟨h', tk', nw', e, F', N', off', e2, hp, hR'⟩ => ⟨h', tk', nw', e, F', N', off', e2, ?_⟩) fun _ _ e => e
      rw [filt_yes hr hp]; exact hR'
    | false =>
      simp only [Bool.false_eq_true, if_false] at q ⊢
      refine cps ?_
      intro C9 hC9
      obtain ⟨h', tk', nw', e, F', N', off', e2, hp⟩ := q
      refine hC9 ?_
      clear hC9 C9
      refine ⟨h', tk', nw', e, F', N', off', e2, ?_⟩
      rw [filt_no hr hp]; exact hR
  · obtain ⟨rfl, hR⟩ := h
    rw [hsz', List.take_length] at hR
    exact fin g ys hR
theorem srcX_rangeS {x : Str} {px : Pos} {elt : Expr} {ifs : List Expr} {scope : Scope} {cl : List (Str × Addr)} {Fin : Shared → List Value → List (Addr × Obj) → Prop} {r : Addr} {a b : Int} {t u v : Tok} {nw : List (Addr × Obj)} {s₁ : Shared} (n : Nat) (J : Nat → List Value → List (Addr × Obj) → Prop)
    (hh : A.handled = none) (F : Fr h₀ L s₁.heap m) (N : News h₀ L s₁.heap nw) (hr : IsRange s₁.heap r a b 1 t u v) (hsm : Builtin.Range.small a b 1 = true) (hn : Builtin.Range.rangeSize a b 1 = ((n : Nat) : Int)) (hsz : n ≤ sizeLine) (h0 : J 0 [] nw) (hkind : scope.kind = .function) (hx : scope.names.lookup x = some .local)
    (hu : ∀ (i : Nat) t ys nw' I oI C oC D m₂ h tk (E' : Value → Shared → Prop), i < n → J i ys nw' → NsObj oC m₂ → m₂ x = some (.int (a + (i : Int)) t) → Fr h₀ L h m → News h₀ L h ((I, oI) :: (C, oC) :: (D, lst ys) :: nw') → Off3 I C D nw' → ((@Ne Nat I C) ∧ (@Ne Nat I D) ∧ (@Ne Nat C D)) →
      TstX prog w A ifs (compEnvC scope cl C env) (fun ok s₃ => if ok = true then wpAny (model prog w) A (eval elt (compEnvC scope cl C env)) (fun y s₄ => CEnd h₀ L m { s₁ with heap := h, toks := tk } I oI C oC D (lst ys) (J (i + 1) (ys ++ [y])) s₄) E' s₃
        else CEnd h₀ L m { s₁ with heap := h, toks := tk } I oI C oC D (lst ys) (J (i + 1) ys) s₃) E' { s₁ with heap := h, toks := tk })
    (fin : ∀ g ys nw', J n ys nw' → Fin { s₁ with heap := g } ys nw') : SrcX prog w A h₀ L m env elt (.Name x px) ifs scope cl Fin (.ref r) s₁ := by
  refine srcX_range (nw := nw) n (fun _ v m₂ => m₂ x = some v) J hh F N hr hsm hn hsz h0 (fun g I => takes_name hkind hx) (fun g => ?_) fin
  rintro i v ys nw' I oI C oC D m₂ h tk E' hi ⟨t', rfl⟩ hJ hC hX F₁ N₁ off hne
  exact hu i t' ys nw' I oI C oC D m₂ h tk E' hi hJ hC hX F₁ N₁ off hne
end
theorem strs_snoc {y : PySem.Str} {t : Tok} : ∀ {vs : List Value} {ys : List PySem.Str}, StrsAre vs ys → StrsAre (vs ++ [.str y t]) (ys ++ [y])
  | _, _, .nil => .cons y t .nil
  | _, _, .cons z u r => .cons z u (strs_snoc r)
theorem ints_snoc {y : Int} {t : Tok} : ∀ {vs : List Value} {ys : List Int}, IntsAre vs ys → IntsAre (vs ++ [.int y t]) (ys ++ [y])
  | _, _, .nil => .cons y t .nil
  | _, _, .cons z u r => .cons z u (ints_snoc r)
end Mine
end
section
open PySem PySem.W PyProof.Rows
namespace Mine
theorem fresh_LH : True := by
  k_with_none
  w_top off
  trivial
noncomputable abbrev forBody : Stmt → List Stmt
  | .For _ _ b _ _ => b
  | _ => []
noncomputable abbrev hopBody : List Stmt := match lawDef.body.drop 8 with
  | s :: _ => forBody s
  | [] => []
theorem lawU (L fa : Addr) (cd : Value) : (lawA L fa cd).units + 64 < cLine := (by decide +kernel : callerA.units + 3 + 64 < cLine)
theorem kept0 {m : Str → Option Value} {a : Str} {v : Value} (h : m a = some v) : (fun y => if y = a then some v else m y) = m := by
  funext y
  by_cases q : y = a
  · rw [if_pos q, q, h]
  · rw [if_neg q]
theorem allLt_cons {a : Nat} {p : Addr × Obj} {l : List (Addr × Obj)} (h1 : p.1 < a) (h2 : AllLt a l) : AllLt a (p :: l) := ⟨h1, h2⟩
theorem allLt_tail {a : Nat} {p : Addr × Obj} {l : List (Addr × Obj)} (h : AllLt a (p :: l)) : AllLt a l := h.2
theorem allLt_sub {a : Addr} {l l' : List (Addr × Obj)} (h : AllLt a l) (hs : ∀ p ∈ l', p ∈ l) : AllLt a l' := allLt_of fun p hp => tb_ltOf h p (hs p hp)
theorem ownOff_app {l l' : List (Addr × Obj)} {as : List Addr} (h1 : OwnOff l as) (h2 : OwnOff l' as) : OwnOff (l ++ l') as := fun p hp => (List.mem_append.mp hp).elim (h1 p) (h2 p)
theorem ownOff_up {l : List (Addr × Obj)} {a : Addr} {as : List Addr} (h : ∀ p ∈ l, a < p.1) (ha : ∀ q ∈ as, q < a) : OwnOff l as := fun p hp q hq => Nat.ne_of_gt (Nat.lt_trans (ha q hq) (h p hp))
theorem ownOff_sub {l : List (Addr × Obj)} {as as' : List Addr} (h : OwnOff l as) (hs : ∀ a ∈ as', a ∈ as) : OwnOff l as' := fun p hp q hq => h p hp q (hs q hq)
theorem heard_led {g h : Heap} {L0 : Addr} {P : Prop} {D wl cR cL Lz Lr Lh Ln : Nat} {oD oW oT oCR oCL oZ oR oH oN : Obj} {add T : List (Addr × Obj)}
    (N : News g L0 h ((D, oD) :: (wl, oW) :: (add ++ (172, oT) :: (cR, oCR) :: (cL, oCL) :: (Lz, oZ) :: (Lr, oR) :: (Lh, oH) :: (Ln, oN) :: T)))
    (a1 : AllLt wl ((Lz, oZ) :: (Lr, oR) :: (Lh, oH) :: (Ln, oN) :: T)) (hwD : wl < D) (ha : ∀ p ∈ add, wl < p.1)
    (a7 : AllLt cR ((Lz, oZ) :: (Lr, oR) :: (Lh, oH) :: (Ln, oN) :: T) ∧ AllLt cL ((Lz, oZ) :: (Lr, oR) :: (Lh, oH) :: (Ln, oN) :: T) ∧ 172 < cR ∧ 172 < cL)
    (hL : 172 < Lz ∧ 172 < Lr ∧ 172 < Lh ∧ 172 < Ln) (hOff : OwnOff T [Lz, Lr, Lh, Ln, 172])
    (k : ∀ T', T' = add ++ (172, oT) :: (cR, oCR) :: (cL, oCL) :: T → OwnOff T' [Lz, Lr, Lh, Ln] → (Lz < wl ∧ Lr < wl ∧ Lh < wl ∧ Ln < wl) → News g L0 h ((Lz, oZ) :: (Lr, oR) :: (Lh, oH) :: (Ln, oN) :: (D, oD) :: (wl, oW) :: T') → P) : P := by
  obtain ⟨c1, c2, c3, c4, c5⟩ := a1
  obtain ⟨⟨e1, e2, e3, e4, e5⟩, ⟨f1, f2, f3, f4, f5⟩, g1, g2⟩ := a7
  dsimp only at c1 c2 c3 c4 e1 e2 e3 e4 f1 f2 f3 f4
  refine k _ rfl ?_ ⟨c1, c2, c3, c4⟩ (sub_news N ?_)
  · refine ownOff_app (ownOff_up ha ?_) ?_
    · exact fmC (c1) (fmC (c2) (fmC (c3) (fmC (c4) fmN)))
    · intro p hp
      simp only [List.mem_cons] at hp
      simp only [List.forall_mem_cons, List.not_mem_nil, false_implies, implies_true, and_true]
      rcases hp with rfl | rfl | rfl | hp
      · exact ⟨neN (by dsimp only; omega), neN (by dsimp only; omega), neN (by dsimp only; omega), neN (by dsimp only; omega)⟩
      · exact ⟨neN (by dsimp only; omega), neN (by dsimp only; omega), neN (by dsimp only; omega), neN (by dsimp only; omega)⟩
      · exact ⟨neN (by dsimp only; omega), neN (by dsimp only; omega), neN (by dsimp only; omega), neN (by dsimp only; omega)⟩
      · have := hOff p hp
        simp only [List.forall_mem_cons, List.not_mem_nil, false_implies, implies_true, and_true] at this
        exact ⟨this.1, this.2.1, this.2.2.1, this.2.2.2.1⟩
  · walk_at "sub"
theorem heard_led2 {g h : Heap} {L0 : Addr} {P : Prop} {D wl Lz Lr Lh Ln : Nat} {oD oW oZ oR oH oN : Obj} {add T : List (Addr × Obj)}
    (N : News g L0 h ((D, oD) :: (wl, oW) :: (add ++ (Lz, oZ) :: (Lr, oR) :: (Lh, oH) :: (Ln, oN) :: T)))
    (a1 : AllLt wl ((Lz, oZ) :: (Lr, oR) :: (Lh, oH) :: (Ln, oN) :: T)) (ha : ∀ p ∈ add, wl < p.1) (hOff : OwnOff T [Lz, Lr, Lh, Ln])
    (k : ∀ T', T' = add ++ T → OwnOff T' [Lz, Lr, Lh, Ln] → (Lz < wl ∧ Lr < wl ∧ Lh < wl ∧ Ln < wl) → News g L0 h ((Lz, oZ) :: (Lr, oR) :: (Lh, oH) :: (Ln, oN) :: (D, oD) :: (wl, oW) :: T') → P) : P := by
  obtain ⟨c1, c2, c3, c4, c5⟩ := a1
  dsimp only at c1 c2 c3 c4
  refine k _ rfl ?_ ⟨c1, c2, c3, c4⟩ (sub_news N ?_)
  · refine ownOff_app (ownOff_up ha ?_) hOff
    exact fmC (c1) (fmC (c2) (fmC (c3) (fmC (c4) fmN)))
  · walk_at "sub"
theorem kept1 {m : Str → Option Value} {a b : Str} {v w : Value} (h : m a = some v) (hab : a ≠ b) (y : Str) (h1 : y ≠ a) : (if y = b then some w else if y = a then some v else m y) = if y = b then some w else m y := by
  rw [if_neg h1]
end Mine
end
section
open PySem PySem.W PyProof.Rows
namespace Mine
theorem fresh_L1 : True := by
  k_with_none
  w_top off
  trivial
noncomputable def runsF (hs : List Int) : List Int := List.map (fun a => a.fmod 6) (List.filter (fun a => a.fmod 6 != 5) (List.take 3 hs)) ++ [(hs.getD 3 0).fmod 5]
theorem fit_mf {f : Int → Int} {p : Int → Bool} {hs : List Int} : (List.map f (List.filter p (List.take 3 hs))).length + 1 ≤ sizeLine := by
  rw [sizeLine_eq, List.length_map]
  have h1 := List.length_filter_le p (List.take 3 hs)
  have h2 := List.length_take_le 3 hs
  omega
theorem seg1 (w : World) (mean : ExcName → Option Value) (mg mb : Str → Option Value) (h₀ : Heap) (L fa sl : Nat) (cd : Value) (m : Str → Option Value) (s : Shared) (Q : Flow → Shared → Prop) (Ea Eb : Value → Shared → Prop) (rest : List Stmt)
    (vs : List Value) (script : List Int) (oZ oR oH oN : Obj) (cZ cR cH cN : Option Value)
    (hB : Below callerA h₀ [] h₀) (hK : (hd.heap_39 w.params).In h₀) (hT : Top topProg LooseL mean mg mb h₀) (hch : CodeHd h₀ 176 172)
    (hF : Fr h₀ L s.heap (fun y => if y = Str.ofString "script" then some (.ref sl) else m y))
    (hN : News h₀ L s.heap [(L + 1 + 1 + 1 + 1, oZ), (L + 1 + 1 + 1, oR), (L + 1 + 1, oH), (L + 1, oN), (172, tabObj #[])])
    (hZ : oZ.data = .cell cZ) (hR : oR.data = .cell cR) (hH : oH.data = .cell cH) (hNn : oN.data = .cell cN) (hL : 172 < L)
    (hl : h₀.IsList sl vs.toArray) (hI : IntsAre vs script) (hlen : ¬ (63 : Int) < (script.length : Int)) (hlay : (PyData.list (script.map PyData.int)).layable0 = true)
    (hc : ∀ (hs : List Int) (us : List Value) (rl k : Nat) (oN' : Obj) (t1 t2 : Tok) (M : Str → Option Value) (h' : Heap) (tk' : Nat), hs.length = 4 → IntsAre us (runsF hs) → oN'.data = .cell (some (.ref rl)) → L + 1 + 1 + 1 + 1 < rl →
      Fr h₀ L h' (fun y => if y = Str.ofString "sendings" then some (.int ((hs.sum.fdiv 5).fmod 3 + 1) t2) else if y = Str.ofString "total" then some (.int hs.sum t1) else M y) →
      News h₀ L h' [(rl, listOf us.toArray k), (L + 1 + 1 + 1 + 1, oZ), (L + 1 + 1 + 1, oR), (L + 1 + 1, oH), (L + 1, oN'), (172, tabObj #[])] →
      wpAny (model Challenge.rw_pe0179_01.row.prog w) (lawA L fa cd) (execs rest (lawEnv L fa cd)) Q (fun e s1 => lawE w L fa cd Ea Eb e s1) { s with heap := h', toks := tk' }) :
    wpAny (model Challenge.rw_pe0179_01.row.prog w) (lawA L fa cd) (execs (lawDef.body.take 5 ++ rest) (lawEnv L fa cd)) Q (fun e s1 => lawE w L fa cd Ea Eb e s1) s := by
  revert hK
  k_fill
  intro hK
  k_with_none
  dsimp only [lawDef, defOf, lawEnv, lawA, lawE, List.take, List.cons_append, List.nil_append]
  all_goals (try k_fold)
  k_with "pyIter ref" => k_state (fun pre hs => hs.length = 4) "heaps"
  k_steps
  rename Fr _ _ _ _ => kF
  rename News _ _ _ _ => kN
  rename IntsAre _ (List.map _ _) => kI
  k_dflt (refine' kmk_add_ints kF kN ?ya ?yb kI (.cons _ _ .nil) ?_ fit_mf)
  (case ya => kmk_list)
  (case yb => kmk_list)
  intro D' ws' h' F' N' l1 hI'
  k_lt l1
  k_steps
  rename Fr _ _ _ _ => zF
  rename News _ _ _ _ => zN
  rename Obj.data _ = Data.cell (some _) => zd
  dsimp only
  refine hc _ _ _ 0 _ _ _ _ _ _ kInv hI' zd ?_ zF (sub_news zN ?_)
  · exact l1.2.2.2.2.1
  · walk_at "sub"
end Mine
end
section
open PySem PySem.W PyProof.Rows
namespace Mine
theorem fresh_PU : True := by
  k_with_none
  w_top off
  trivial
noncomputable def dots (r : Int) : Str := Txt.mul (Str.ofString ".") r
noncomputable def dotsN (n : Nat) : List Nat := List.replicate n 46
theorem str_dot : Str.ofString "." = ⟨#[46]⟩ := by decide +kernel
theorem dots_list (r : Int) : (dots r).cps.toList = dotsN r.toNat := by unfold dots dotsN; rw [str_dot]; exact mul_one_list _ _
theorem dots_mk (r : Int) : dots r = ⟨(dotsN r.toNat).toArray⟩ := by
  refine Str.ext' ?_
  rw [← dots_list]
noncomputable def tailS (sep : List Nat) (ns : List Nat) : List Nat := ns.flatMap fun n => sep ++ dotsN n
noncomputable def textS (sep : List Nat) : List Nat → List Nat
  | [] => []
  | n :: ns => dotsN n ++ tailS sep ns
theorem join_list' (sep : Str) : ∀ ys : List Str, (Txt.join sep ys).cps.toList = match ys with
    | [] => []
    | y :: r => y.cps.toList ++ r.flatMap fun p => sep.cps.toList ++ p.cps.toList := by
  have key : ∀ (rest : List Str) (acc : Array Nat), (rest.foldl (fun acc p => acc ++ sep.cps ++ p.cps) acc).toList = acc.toList ++ rest.flatMap fun p => sep.cps.toList ++ p.cps.toList := by
    intro rest
    induction rest with
    | nil => intro acc; simp
    | cons p r ih =>
      intro acc
      rw [List.foldl_cons, ih]
      simp
  intro ys
  cases ys with
  | nil => rfl
  | cons p r =>
    show (r.foldl (fun acc p => acc ++ sep.cps ++ p.cps) p.cps).toList = _
    rw [key]
theorem join_dots (sep : Str) (runs : List Int) : (Txt.join sep (runs.map dots)).cps.toList = textS sep.cps.toList (runs.map Int.toNat) := by
  rw [join_list']
  cases runs with
  | nil => rfl
  | cons r rs =>
    simp only [List.map_cons, textS, tailS, dots_list, List.flatMap_map]
theorem dotsN_eol (n : Nat) : ∀ c ∈ dotsN n, isEol c = false := by
  intro c hc
  rw [(List.mem_replicate.mp hc).2]; decide
theorem dots_head (n : Nat) (sep ns : List Nat) (hs : sep = [13]) : ∀ r', dotsN n ++ tailS sep ns ≠ 10 :: r' := by
  intro r' h
  subst hs
  cases n with
  | zero =>
    cases ns with
    | nil => simp [dotsN, tailS] at h
    | cons m ms => simp [dotsN, tailS] at h
  | succ n => simp [dotsN, List.replicate_succ] at h
theorem fixL_text {sep : List Nat} (hs : sep = [10] ∨ sep = [13] ∨ sep = [13, 10]) : ∀ (ns : List Nat) (n : Nat), fixL (dotsN n ++ tailS sep ns) = dotsN n ++ tailS [13, 10] ns
  | [], n => by
    rw [fixL_skip _ _ (dotsN_eol n)]
    simp [tailS, fixL]
  | m :: ms, n => by
    rw [fixL_skip _ _ (dotsN_eol n)]
    have ih := fixL_text hs ms m
    have e1 : tailS sep (m :: ms) = sep ++ (dotsN m ++ tailS sep ms) := by simp [tailS]
    have e2 : tailS [13, 10] (m :: ms) = 13 :: 10 :: (dotsN m ++ tailS [13, 10] ms) := by simp [tailS]
    rw [e1, e2]
    congr 1
    rcases hs with rfl | rfl | rfl
    · rw [List.singleton_append, fixL_cons (by simp), if_pos (by decide), ih]
    · rw [List.singleton_append, fixL_cons (fun q => by obtain ⟨-, r', q⟩ := q; exact dots_head m [13] ms rfl r' q), if_pos (by decide), ih]
    · show fixL (13 :: 10 :: _) = _
      rw [fixL.eq_def]; simp only; show 13 :: 10 :: fixL (dotsN m ++ tailS [13, 10] ms) = _; rw [ih]
theorem fixL_textS {sep : List Nat} (hs : sep = [10] ∨ sep = [13] ∨ sep = [13, 10]) (ns : List Nat) : fixL (textS sep ns) = textS [13, 10] ns := by
  cases ns with
  | nil => rw [fixL.eq_def]; rfl
  | cons n ns => exact fixL_text hs ns n
noncomputable def rowN (h : Nat) (r : Int) : Nat := if r.toNat = 0 then 0 else r.toNat + h
noncomputable def bump (n : Nat) : Nat := if n = 0 then 0 else n + 1
theorem rowN_zero (r : Int) : rowN 0 r = r.toNat := by unfold rowN; split <;> (first | lia | omega)
theorem rowN_bump (h : Nat) (r : Int) : bump (rowN h r) = rowN (h + 1) r := by unfold rowN bump; split <;> split <;> (first | lia | omega)
noncomputable def mailT (runs : List Int) (h : Nat) : Str := ⟨(textS [13, 10] (runs.map (rowN h))).toArray⟩
theorem mailT_list (runs : List Int) (h : Nat) : (mailT runs h).cps.toList = textS [13, 10] (runs.map (rowN h)) := by simp [mailT]
theorem mail_first (sep : Str) (hs : sep.cps.toList = [10] ∨ sep.cps.toList = [13] ∨ sep.cps.toList = [13, 10]) (runs : List Int) : fixF (Txt.join sep (runs.map dots)) = mailT runs 0 := by
  refine Str.ext' ?_
  apply Array.toList_inj.mp
  rw [fixF_list, join_dots, fixL_textS hs, mailT_list]
  congr 1
  exact List.map_congr_left fun r _ => (rowN_zero r).symm
theorem quote_dots : ∀ (k : Nat) (X : List Nat), quoteL false (dotsN k ++ X) = dotsN k ++ quoteL false X
  | 0, X => rfl
  | k + 1, X => by
    show quoteL false (46 :: (dotsN k ++ X)) = 46 :: (dotsN k ++ quoteL false X)
    rw [quoteL]; simp only [Bool.false_and, Bool.false_eq_true, if_false]
    rw [← quote_dots k X]; rfl
theorem quote_text : ∀ (ns : List Nat) (n : Nat), quoteL true (dotsN n ++ tailS [13, 10] ns) = dotsN (bump n) ++ tailS [13, 10] (ns.map bump) := by
  intro ns
  induction ns with
  | nil =>
    intro n
    cases n with
    | zero => rfl
    | succ n =>
      have e : dotsN (n + 1) ++ tailS [13, 10] [] = 46 :: (dotsN n ++ []) := by simp [dotsN, List.replicate_succ, tailS]
      rw [e, quoteL]
      simp only [beq_self_eq_true, Bool.true_and, if_true]
      rw [quote_dots]
      simp [bump, dotsN, List.replicate_succ, tailS, quoteL]
  | cons m ms ih =>
    intro n
    have ih := ih m
    have e1 : tailS [13, 10] (m :: ms) = 13 :: 10 :: (dotsN m ++ tailS [13, 10] ms) := by simp [tailS]
    have e2 : tailS [13, 10] ((m :: ms).map bump) = 13 :: 10 :: (dotsN (bump m) ++ tailS [13, 10] (ms.map bump)) := by simp [tailS]
    rw [e1, e2]
    have q0 : ∀ b, quoteL b (13 :: 10 :: (dotsN m ++ tailS [13, 10] ms)) = 13 :: 10 :: (dotsN (bump m) ++ tailS [13, 10] (ms.map bump)) := by
      intro b
      rw [quoteL]
      rw [if_neg (by simp)]
      rw [show ((13 : Nat) == 10) = false from rfl, quoteL]
      rw [if_neg (by simp)]
      rw [show ((10 : Nat) == 10) = true from rfl, ih]
    cases n with
    | zero => exact q0 true
    | succ n =>
      have e : dotsN (n + 1) ++ 13 :: 10 :: (dotsN m ++ tailS [13, 10] ms) = 46 :: (dotsN n ++ 13 :: 10 :: (dotsN m ++ tailS [13, 10] ms)) := by simp [dotsN, List.replicate_succ]
      rw [e, quoteL]
      simp only [beq_self_eq_true, Bool.true_and, if_true]
      rw [quote_dots, q0]
      simp [bump, dotsN, List.replicate_succ]
theorem mail_size {runs : List Int} (hr : runs.length ≤ 4) (hb : ∀ r ∈ runs, 0 ≤ r ∧ r ≤ 4) {h : Nat} (hh : h ≤ 3) : (mailT runs h).cps.size ≤ 36 := by
  have e : (mailT runs h).cps.size = (textS [13, 10] (runs.map (rowN h))).length := by rw [← mailT_list]; simp
  rw [e]
  have hrow : ∀ r ∈ runs, rowN h r ≤ 7 := by
    intro r hr
    have := hb r hr
    unfold rowN; split <;> (first | lia | omega)
  have key : ∀ l : List Int, (∀ r ∈ l, rowN h r ≤ 7) → (tailS [13, 10] (l.map (rowN h))).length ≤ 9 * l.length := by
    intro l
    induction l with
    | nil => intro _; simp [tailS]
    | cons r l ih =>
      intro hl
      have h1 := ih fun r hr => hl r (by simp [hr])
      have h2 := hl r (by simp)
      have e1 : tailS [13, 10] ((r :: l).map (rowN h)) = 13 :: 10 :: (dotsN (rowN h r) ++ tailS [13, 10] (l.map (rowN h))) := by simp [tailS]
      rw [e1]
      simp only [List.length_cons, List.length_append, dotsN, List.length_replicate]
      (first | lia | omega)
  cases runs with
  | nil => simp [textS]
  | cons r rs =>
    have h1 := key rs fun r hr => hrow r (by simp [hr])
    have h2 := hrow r (by simp)
    simp only [List.map_cons, textS, List.length_append, dotsN, List.length_replicate]
    simp only [List.length_cons] at hr
    (first | lia | omega)
theorem mail_next {runs : List Int} (hr : runs.length ≤ 4) (hb : ∀ r ∈ runs, 0 ≤ r ∧ r ≤ 4) {h : Nat} (hh : h ≤ 3) : dotF (fixF (mailT runs h)) = mailT runs (h + 1) := by
  have hs := mail_size hr hb hh
  have hs2 : (fixF (mailT runs h)).length ≤ 72 := fixF_len (n := 36) hs
  refine Str.ext' ?_
  apply Array.toList_inj.mp
  rw [dotF_list _ (Nat.le_trans hs2 (by decide)), fixF_list, mailT_list, mailT_list, fixL_textS (.inr (.inr rfl))]
  cases runs with
  | nil => rfl
  | cons r rs =>
    simp only [List.map_cons, textS]
    rw [quote_text, rowN_bump, List.map_map]
    congr 2
    exact List.map_congr_left fun r _ => rowN_bump h r
theorem mail_plain (runs : List Int) (h : Nat) : Plain3 (mailT runs h) := by
  intro c hc
  rw [mailT_list] at hc
  have hd : ∀ n, c ∈ dotsN n → c = 46 := fun n h => (List.mem_replicate.mp h).2
  cases runs with
  | nil => simp [textS] at hc
  | cons r rs =>
    simp only [List.map_cons, textS, tailS, List.mem_append, List.mem_flatMap, List.mem_cons, List.not_mem_nil, or_false] at hc
    rcases hc with h | ⟨n, _, (h | h) | h⟩
    · exact .inl (hd _ h)
    · exact .inr (.inr h)
    · exact .inr (.inl h)
    · exact .inl (hd _ h)
/-- the words of rows, the first row's number given -/
noncomputable def wds : List Nat → Int → List (Int × Str)
  | [], _ => []
  | n :: ns, l => if n = 0 then wds ns (l + 1) else (l, ⟨(dotsN n).toArray⟩) :: wds ns (l + 1)
theorem wordsL_skip {c : Nat} (hc : isWs c = true) (k : Nat) (r : List Nat) (l : Int) : wordsL (k + 1) (c :: r) l = wordsL (k + 1) r (l + (nl c : Int)) := by
  have e : tokL (c :: r) = ((tokL r).1, (tokL r).2.1, nl c + (tokL r).2.2) := by rw [tokL, if_pos hc]
  rw [wordsL, wordsL, e]
  simp only [Int.natCast_add, Int.add_assoc]
theorem wordL_dots : ∀ (k : Nat) (X : List Nat), wordL (dotsN k ++ X) = (dotsN k ++ (wordL X).1, (wordL X).2.1, (wordL X).2.2)
  | 0, X => rfl
  | k + 1, X => by
    show wordL (46 :: (dotsN k ++ X)) = _
    rw [wordL, if_neg (by decide), wordL_dots k X]; rfl
theorem wordsL_nil (k : Nat) (l : Int) : wordsL k [] l = ([], l) := by
  cases k with
  | zero => rfl
  | succ k => rw [wordsL]; simp [tokL]
theorem wordsL_text : ∀ (ns : List Nat) (n fuel : Nat) (l : Int), ns.length < fuel → wordsL fuel (dotsN n ++ tailS [13, 10] ns) l = (wds (n :: ns) l, l + (ns.length : Int)) := by
  intro ns
  induction ns with
  | nil =>
    intro n fuel l hf
    obtain ⟨k, rfl⟩ : ∃ k, fuel = k + 1 := ⟨fuel - 1, by simp at hf; (first | lia | omega)⟩
    cases n with
    | zero => simp [tailS, dotsN, wordsL_nil, wds]
    | succ n =>
      have e : dotsN (n + 1) ++ tailS [13, 10] [] = 46 :: (dotsN n ++ []) := by simp [dotsN, List.replicate_succ, tailS]
      have t : tokL (46 :: (dotsN n ++ [])) = (dotsN (n + 1), [], 0) := by
        rw [tokL, if_neg (by decide), wordL_dots]
        simp [wordL, dotsN, List.replicate_succ]
      rw [e, wordsL, t]
      simp [wordsL_nil, wds, dotsN, List.replicate_succ]
  | cons m ms ih =>
    intro n fuel l hf
    obtain ⟨k, rfl⟩ : ∃ k, fuel = k + 1 := ⟨fuel - 1, by simp at hf; (first | lia | omega)⟩
    have e1 : tailS [13, 10] (m :: ms) = 13 :: 10 :: (dotsN m ++ tailS [13, 10] ms) := by simp [tailS]
    have hf' : ms.length < k := by simp at hf; (first | lia | omega)
    cases n with
    | zero =>
      rw [e1]
      show wordsL (k + 1) (13 :: 10 :: _) l = _
      rw [wordsL_skip (by decide), wordsL_skip (by decide), ih m (k + 1) _ (by (first | lia | omega))]
      simp only [wds, nl]
      simp
      (first | lia | omega)
    | succ n =>
      have e : dotsN (n + 1) ++ 13 :: 10 :: (dotsN m ++ tailS [13, 10] ms) = 46 :: (dotsN n ++ 13 :: 10 :: (dotsN m ++ tailS [13, 10] ms)) := by simp [dotsN, List.replicate_succ]
      have t : tokL (46 :: (dotsN n ++ 13 :: 10 :: (dotsN m ++ tailS [13, 10] ms))) = (dotsN (n + 1), 10 :: (dotsN m ++ tailS [13, 10] ms), 0) := by
        rw [tokL, if_neg (by decide), wordL_dots, wordL, if_pos (by decide)]
        simp [dotsN, List.replicate_succ, nl]
      obtain ⟨j, rfl⟩ : ∃ j, k = j + 1 := ⟨k - 1, by (first | lia | omega)⟩
      rw [e1, e, wordsL, t]
      simp only
      rw [if_neg (by simp [dotsN, List.replicate_succ])]
      rw [wordsL_skip (by decide), ih m (j + 1) _ (by (first | lia | omega))]
      simp only [wds, nl]
      simp
      (first | lia | omega)
theorem mail_words {runs : List Int} (hne : runs ≠ []) (h : Nat) : wordsX (mailT runs h) = (wds (runs.map (rowN h)) 1, (runs.length : Int)) := by
  obtain ⟨r, rs, rfl⟩ := List.exists_cons_of_ne_nil hne
  unfold wordsX
  have e : (mailT (r :: rs) h).cps.toList = dotsN (rowN h r) ++ tailS [13, 10] (rs.map (rowN h)) := mailT_list _ _
  have hlen : ∀ l : List Nat, l.length ≤ (tailS [13, 10] l).length := by
    intro l
    induction l with
    | nil => simp
    | cons m l ih =>
      have e1 : tailS [13, 10] (m :: l) = 13 :: 10 :: (dotsN m ++ tailS [13, 10] l) := by simp [tailS]
      rw [e1]; simp only [List.length_cons, List.length_append]; (first | lia | omega)
  have hsz : (mailT (r :: rs) h).cps.size = (dotsN (rowN h r) ++ tailS [13, 10] (rs.map (rowN h))).length := by rw [← e]; simp
  rw [e, wordsL_text]
  · simp [Int.add_comm]
  · rw [hsz, List.length_append]
    have := hlen (rs.map (rowN h))
    (first | lia | omega)
end Mine
end
section
open PySem PySem.W PyProof.Rows
namespace Mine
theorem fresh_L2 : True := by
  k_with_none
  w_top off
  trivial
theorem dots_weight {runs : List Int} (h4 : runs.length ≤ 4) (hb : ∀ r ∈ runs, 0 ≤ r ∧ r ≤ 4) : ((runs.map dots).map (·.length)).sum + (runs.map dots).length ≤ 1048576 := by
  have key : ∀ l : List Int, (∀ r ∈ l, 0 ≤ r ∧ r ≤ 4) → ((l.map dots).map (·.length)).sum ≤ 4 * l.length := by
    intro l
    induction l with
    | nil => intro _; simp
    | cons r l ih =>
      intro hl
      have h1 := ih fun r hr => hl r (by simp [hr])
      have h2 := hl r (by simp)
      have h3 : (dots r).length ≤ 4 := len_mul_one (N := 4) str_dot h2.2
      simp only [List.map_cons, List.sum_cons, List.length_cons]
      omega
  have := key runs hb
  rw [List.length_map]
  omega
theorem menu_list {i : Nat} (hi : i < 3) : ([Str.ofString "\n", Str.ofString "\x0d", Str.ofString "\x0d\n"].getD i Str.empty).cps.toList = [10] ∨ ([Str.ofString "\n", Str.ofString "\x0d", Str.ofString "\x0d\n"].getD i Str.empty).cps.toList = [13] ∨ ([Str.ofString "\n", Str.ofString "\x0d", Str.ofString "\x0d\n"].getD i Str.empty).cps.toList = [13, 10] := by
  match i with
  | 0 => exact .inl (by decide +kernel)
  | 1 => exact .inr (.inl (by decide +kernel))
  | 2 => exact .inr (.inr (by decide +kernel))
  | n + 3 => omega
theorem menu_short (i : Nat) : ([Str.ofString "\n", Str.ofString "\x0d", Str.ofString "\x0d\n"].getD i Str.empty).length ≤ 16 := by
  match i with
  | 0 => decide +kernel
  | 1 => decide +kernel
  | 2 => decide +kernel
  | n + 3 => exact Nat.zero_le _
theorem join_short {sep : Nat} {runs : List Int} (h4 : runs.length ≤ 4) (hb : ∀ r ∈ runs, 0 ≤ r ∧ r ≤ 4) : (Txt.join ([Str.ofString "\n", Str.ofString "\x0d", Str.ofString "\x0d\n"].getD sep Str.empty) (runs.map dots)).length ≤ 500 := by
  have e : (Txt.join ([Str.ofString "\n", Str.ofString "\x0d", Str.ofString "\x0d\n"].getD sep Str.empty) (runs.map dots)).length = (Txt.join ([Str.ofString "\n", Str.ofString "\x0d", Str.ofString "\x0d\n"].getD sep Str.empty) (runs.map dots)).cps.toList.length := by simp [Str.length]
  have h1 := menu_short sep
  rw [e, join_dots]
  have h2 : ([Str.ofString "\n", Str.ofString "\x0d", Str.ofString "\x0d\n"].getD sep Str.empty).cps.toList.length ≤ 16 := by simpa [Str.length] using h1
  generalize ([Str.ofString "\n", Str.ofString "\x0d", Str.ofString "\x0d\n"].getD sep Str.empty).cps.toList = sp at h2
  have key : ∀ l : List Int, (∀ r ∈ l, 0 ≤ r ∧ r ≤ 4) → (tailS sp (l.map Int.toNat)).length ≤ 20 * l.length := by
    intro l
    induction l with
    | nil => intro _; simp [tailS]
    | cons r l ih =>
      intro hl
      have h1 := ih fun r hr => hl r (by simp [hr])
      have h2 := hl r (by simp)
      have e1 : tailS sp ((r :: l).map Int.toNat) = sp ++ (dotsN r.toNat ++ tailS sp (l.map Int.toNat)) := by simp [tailS]
      rw [e1]
      simp only [List.length_cons, List.length_append, dotsN, List.length_replicate]
      omega
  cases runs with
  | nil => simp [textS]
  | cons r rs =>
    have h1 := key rs fun r hr => hb r (by simp [hr])
    have h2 := hb r (by simp)
    simp only [List.map_cons, textS, List.length_append, dotsN, List.length_replicate]
    simp only [List.length_cons] at h4
    omega
section
theorem seg2 (w : World) (mean : ExcName → Option Value) (mg mb : Str → Option Value) (h₀ : Heap) (L fa rl k : Nat) (cd : Value) (m : Str → Option Value) (s : Shared) (Q : Flow → Shared → Prop) (Ea Eb : Value → Shared → Prop) (rest : List Stmt)
    (us : List Value) (runs : List Int) (total snd : Int) (t1 t2 : Tok) (oZ oR oH oN : Obj) (cZ cR cH : Option Value)
    (hB : Below callerA h₀ [] h₀) (hK : (hd.heap_39 w.params).In h₀) (hT : Top topProg LooseL mean mg mb h₀) (hch : CodeHd h₀ 176 172)
    (hF : Fr h₀ L s.heap (fun y => if y = Str.ofString "sendings" then some (.int snd t2) else if y = Str.ofString "total" then some (.int total t1) else m y))
    (hN : News h₀ L s.heap [(rl, listOf us.toArray k), (L + 1 + 1 + 1 + 1, oZ), (L + 1 + 1 + 1, oR), (L + 1 + 1, oH), (L + 1, oN), (172, tabObj #[])])
    (hZ : oZ.data = .cell cZ) (hR : oR.data = .cell cR) (hH : oH.data = .cell cH) (hNn : oN.data = .cell (some (.ref rl))) (hL : 172 < L) (hLr : L + 1 + 1 + 1 + 1 < rl)
    (hI : IntsAre us runs) (hr4 : runs.length ≤ 4) (hrb : ∀ r ∈ runs, 0 ≤ r ∧ r ≤ 4)
    (hc : ∀ (pl ml : Nat) (t2 t3 : Tok) (M : Str → Option Value) (h' : Heap) (tk' : Nat),
      Fr h₀ L h' (fun y => if y = Str.ofString "met" then some (.ref ml) else if y = Str.ofString "pages" then some (.ref pl) else if y = Str.ofString "mail" then some (.str (mailT runs 0) t3) else if y = Str.ofString "sendings" then some (.int snd t2) else M y) →
      News h₀ L h' [(ml, W.listOf #[] 0), (pl, W.listOf #[] 0), (rl, listOf us.toArray k), (L + 1 + 1 + 1 + 1, oZ), (L + 1 + 1 + 1, oR), (L + 1 + 1, oH), (L + 1, oN), (172, tabObj #[])] → rl < pl → pl < ml →
      wpAny (model Challenge.rw_pe0179_01.row.prog w) (lawA L fa cd) (execs rest (lawEnv L fa cd)) Q (fun e s1 => lawE w L fa cd Ea Eb e s1) { s with heap := h', toks := tk' }) :
    wpAny (model Challenge.rw_pe0179_01.row.prog w) (lawA L fa cd) (execs ((lawDef.body.drop 5).take 3 ++ rest) (lawEnv L fa cd)) Q (fun e s1 => lawE w L fa cd Ea Eb e s1) s := by
  revert hK
  k_fill
  intro hK
  k_with_none
  k_with "!mine_depth" => (first | decide +kernel | ((try dsimp only [ktrTop, Around.deeper, Around.mark, Around.in1, Around.under]); omega))
  k_with "!mine_side" => (
    (case k1 => k_asm); (case k2 => k_asm); (case k3 => k_asm); (case k4 => k_asm); (case k5 => k_asm); (case k6 => first | exact rfl | assumption); (case k7 => walk_at "sub"); (case k8 => trivial); (case k9 => k_extra "!mine_depth"); (case k10 => k_extra "!mine_depth"))
  k_with "!call ref" => (k_here; k_dflt (refine' fix_claim _ _ _ _ _ _ ?hl9 _ _ _ _ _ _ _ _ _ _ _ _ _ _ _ _ _ _ ?k1 ?k2 ?k3 ?k4 ?k5 ?k6 ?k7 ?k8 ?k9 ?k10 ?_; k_extra "!mine_side"; (case hl9 => exact join_short (by assumption) (by assumption)); intro _ _ _ _ _))
  k_with "!eval ListComp" => (k_here; k_dflt (refine ListComp_X (by k_asm) (by with_unfolding_all rfl) (by decide) (by rfl) (by decide) ?_))
  dsimp only [lawDef, defOf, lawEnv, lawA, lawE, List.drop, List.take, List.cons_append, List.nil_append]
  all_goals (try k_fold)
  k_with "table" => skip
  k_steps
  rename Fr _ _ _ _ => kF
  rename News _ _ _ _ => kN
  refine srcX_ints (fun _ => true) (fun ys pre => StrsAre ys (pre.map dots)) rfl kF kN (by k_mem) hI (by rw [sizeLine_eq]; omega) rfl rfl .nil ?turn ?fin
  case turn =>
    clear kF kN
    intro r t ys pre hr hR I oI C oC D m₂ h tk E' hC hX F N off hne
    obtain ⟨hr1, hr2⟩ := hrb r hr
    simp only [LCg.Off3, and_true] at off
    refine tst_nil ?_
    simp only [if_true]
    k_steps
    refine cend_same (by assumption) (by assumption) (fun p hp => hp) (by simpa only [LCg.Off3, and_true] using off) ⟨rfl, trivial, ?_⟩
    rw [List.map_append]
    exact strs_snoc hR
  case fin =>
    clear kF kN
    intro g ys hR
    rw [List.filter_eq_self.mpr (fun _ _ => rfl)] at hR
    k_steps
    rename Fr _ _ _ _ => kF
    rename News _ _ _ _ => kN
    refine join_listW (News.isList kN (by k_mem)) (by simpa using hR) ?_ (dots_weight hr4 hrb) ?_
    · exact menu_short _
    · intro t' k'
      k_steps
      rename Fr _ _ _ _ => zF
      rename News _ _ _ _ => zN
      rename _ < 1 + 1 + 1 => zlt
      rename _ < _ ∧ _ < _ ∧ _ < _ ∧ _ < _ ∧ _ < _ ∧ _ < _ ∧ _ < _ ∧ _ < _ => zl1
      rename _ < _ ∧ _ < _ ∧ _ < _ ∧ _ < _ ∧ _ < _ ∧ _ < _ ∧ _ < _ ∧ _ < _ ∧ _ < _ => zl2
      have e := mail_first _ (menu_list zlt) runs
      dsimp only at zF
      rw [e] at zF
      refine hc _ _ _ _ _ _ _ zF (sub_news zN ?_) zl1.2.2.1 zl2.1
      walk_at "sub"
end
end Mine
end
section
open PySem PySem.W PyProof.Rows
namespace Mine
theorem fresh_L3 : True := by
  k_with_none
  w_top off
  trivial
section
theorem hop0 (w : World) (mean : ExcName → Option Value) (mg mb : Str → Option Value) (h₀ : Heap) (L fa : Nat) (cd : Value) (m : Str → Option Value) (s : Shared) (Q : Flow → Shared → Prop) (Ea Eb : Value → Shared → Prop) (rest : List Stmt)
    (x : Str) (t th : Tok) (oZ oR oH oN : Obj) (cR : Option Value) (T : List (Addr × Obj))
    (hB : Below callerA h₀ [] h₀) (hK : (hd.heap_39 w.params).In h₀) (hT : Top topProg LooseL mean mg mb h₀) (hch : CodeHd h₀ 176 172)
    (hF : Fr h₀ L s.heap m) (hm : m (Str.ofString "mail") = some (.str x t)) (hx : x.cps.size ≤ 500) (hp : Plain3 x)
    (hN : News h₀ L s.heap ([(172, tabObj #[])] ++ (L + 1 + 1 + 1 + 1, oZ) :: (L + 1 + 1 + 1, oR) :: (L + 1 + 1, oH) :: (L + 1, oN) :: T))
    (hR : oR.data = .cell cR) (hH : oH.data = .cell (some (.int 0 th))) (hL : 172 < L) (hOff : OwnOff T [L + 1 + 1 + 1 + 1, L + 1 + 1 + 1, L + 1 + 1, L + 1, 172])
    (h172 : ∀ p ∈ (L + 1 + 1 + 1 + 1, oZ) :: (L + 1 + 1 + 1, oR) :: (L + 1 + 1, oH) :: (L + 1, oN) :: T, p.1 ≠ 172)
    (hc : ∀ (wl : Nat) (us : List Value) (kk : Nat) (add : List (Addr × Obj)) (tr : Tok) (cR9 : Nat) (oCR : Obj) (cL9 : Nat) (oCL oR' : Obj) (M' : Str → Option Value) (h' : Heap) (tk' : Nat),
      Fr h₀ L h' M' → M' (Str.ofString "words") = some (.ref wl) → (∀ y, y ≠ Str.ofString "words" → M' y = m y) →
      News h₀ L h' ((L + 1 + 1 + 1 + 1, oZ) :: (L + 1 + 1 + 1, oR') :: (L + 1 + 1, oH) :: (L + 1, oN) :: (wl, listOf us.toArray kk) :: (add ++ (172, tabObj (tabOf cR9 cL9)) :: (cR9, oCR) :: (cL9, oCL) :: T)) →
      oR'.data = .cell (some (.int (wordsX x).2 tr)) → DatAll add us ((wordsX x).1.map wordD) → TabOk oCR oCL →
      AllLt wl ((L + 1 + 1 + 1 + 1, oZ) :: (L + 1 + 1 + 1, oR) :: (L + 1 + 1, oH) :: (L + 1, oN) :: T) → 172 < wl → cR9 < wl → cL9 < wl → (∀ p ∈ add, wl < p.1) →
      AllLt cR9 ((L + 1 + 1 + 1 + 1, oZ) :: (L + 1 + 1 + 1, oR) :: (L + 1 + 1, oH) :: (L + 1, oN) :: T) → AllLt cL9 ((L + 1 + 1 + 1 + 1, oZ) :: (L + 1 + 1 + 1, oR) :: (L + 1 + 1, oH) :: (L + 1, oN) :: T) → 172 < cR9 → 172 < cL9 →
      wpAny (model Challenge.rw_pe0179_01.row.prog w) (lawA L fa cd) (execs rest (lawEnv L fa cd)) Q (fun e s1 => lawE w L fa cd Ea Eb e s1) { s with heap := h', toks := tk' }) :
    wpAny (model Challenge.rw_pe0179_01.row.prog w) (lawA L fa cd) (execs (hopBody.take 2 ++ rest) (lawEnv L fa cd)) Q (fun e s1 => lawE w L fa cd Ea Eb e s1) s := by
  revert hK
  k_fill
  intro hK
  k_with_none
  have hF1 := fr1 hF hm
  clear hF
  have kdm := kdMark
  dsimp only [lawDef, defOf, lawEnv, lawA, lawE, hopBody, forBody, List.drop, List.take, List.cons_append, List.nil_append]
  all_goals (try k_fold)
  k_with "call ref" => (k_here; k_dflt (refine' heard_claim w mean mg mb _ _ ?hl9 ?hp9 _ _ _ _ _ _ _ _ _ _ _ _ _ _ _ _ _ _ ?k1 ?k2 ?k3 ?k4 ?k5 ?k6 ?k7 ?k8 ?k9 ?k10 ?_; (case hl9 => assumption); (case hp9 => assumption); (case k1 => k_asm); (case k2 => k_asm); (case k3 => k_asm); (case k4 => assumption); (case k5 => k_asm); (case k6 => exact rfl); (case k7 => assumption); (case k8 => decide +kernel); (case k9 => decide +kernel); (case k10 => assumption); intro D9 wl9 us9 kk9 add9 tr9 cR9 oR9 cL9 oL9 h9 tk9 F9 N9 hD9 hT9 a1 a2 a3 a4 a5 a6 a7; refine heard_led N9 a1 a5 a6 a7 (by omega) (by assumption) ?_; intro T9 hT9' hO9 hw9 N9'; clear N9))
  k_steps
  rename Fr _ _ _ _ => zF
  rename News _ _ _ _ => zN
  rename Obj.data _ = Data.cell (some (.int (wordsX x).2 _)) => zd
  refine hc wl9 us9 kk9 add9 _ cR9 oR9 cL9 oL9 _ _ _ _ zF rfl ?_ ?_ zd hD9 hT9 a1 a2 a3 a4 a6 a7.1 a7.2.1 a7.2.2.1 a7.2.2.2
  · intro y hy
    (try dsimp only)
    rw [if_neg hy]
    exact congrFun (kept0 hm) y
  · refine sub_news zN ?_
    rw [hT9']
    walk_at "sub"
end
end Mine
end
section
open PySem PySem.W PyProof.Rows
namespace Mine
theorem fresh_L4 : True := by
  k_with_none
  w_top off
  trivial
section
theorem hopN (w : World) (mean : ExcName → Option Value) (mg mb : Str → Option Value) (h₀ : Heap) (L fa : Nat) (cd : Value) (m : Str → Option Value) (s : Shared) (Q : Flow → Shared → Prop) (Ea Eb : Value → Shared → Prop) (rest : List Stmt)
    (x : Str) (t th : Tok) (j : Int) (cR9 : Nat) (oCR : Obj) (cL9 : Nat) (oCL : Obj) (oZ oR oH oN : Obj) (cR : Option Value) (T : List (Addr × Obj))
    (hB : Below callerA h₀ [] h₀) (hK : (hd.heap_39 w.params).In h₀) (hT : Top topProg LooseL mean mg mb h₀) (hch : CodeHd h₀ 176 172)
    (hF : Fr h₀ L s.heap m) (hm : m (Str.ofString "mail") = some (.str x t)) (hxl : x.length ≤ 250) (hx : (dotF (fixF x)).cps.size ≤ 500) (hp : Plain3 (dotF (fixF x))) (hj : 0 < j)
    (hN : News h₀ L s.heap ((L + 1 + 1 + 1 + 1, oZ) :: (L + 1 + 1 + 1, oR) :: (L + 1 + 1, oH) :: (L + 1, oN) :: T))
    (hR : oR.data = .cell cR) (hH : oH.data = .cell (some (.int j th))) (hL : 172 < L) (hOff : OwnOff T [L + 1 + 1 + 1 + 1, L + 1 + 1 + 1, L + 1 + 1, L + 1]) (hTab : TabOk oCR oCL)
    (hmem : ∀ p ∈ [(172, tabObj (tabOf cR9 cL9)), (cR9, oCR), (cL9, oCL)], p ∈ T)
    (hc : ∀ (wl : Nat) (us : List Value) (kk : Nat) (add : List (Addr × Obj)) (tr t' : Tok) (oR' : Obj) (M' : Str → Option Value) (h' : Heap) (tk' : Nat),
      Fr h₀ L h' M' → M' (Str.ofString "words") = some (.ref wl) → M' (Str.ofString "mail") = some (.str (dotF (fixF x)) t') → (∀ y, y ≠ Str.ofString "words" → y ≠ Str.ofString "mail" → M' y = m y) →
      News h₀ L h' ((L + 1 + 1 + 1 + 1, oZ) :: (L + 1 + 1 + 1, oR') :: (L + 1 + 1, oH) :: (L + 1, oN) :: (wl, listOf us.toArray kk) :: (add ++ T)) →
      oR'.data = .cell (some (.int (wordsX (dotF (fixF x))).2 tr)) → DatAll add us ((wordsX (dotF (fixF x))).1.map wordD) →
      AllLt wl ((L + 1 + 1 + 1 + 1, oZ) :: (L + 1 + 1 + 1, oR) :: (L + 1 + 1, oH) :: (L + 1, oN) :: T) → (∀ p ∈ add, wl < p.1) →
      wpAny (model Challenge.rw_pe0179_01.row.prog w) (lawA L fa cd) (execs rest (lawEnv L fa cd)) Q (fun e s1 => lawE w L fa cd Ea Eb e s1) { s with heap := h', toks := tk' }) :
    wpAny (model Challenge.rw_pe0179_01.row.prog w) (lawA L fa cd) (execs (hopBody.take 2 ++ rest) (lawEnv L fa cd)) Q (fun e s1 => lawE w L fa cd Ea Eb e s1) s := by
  revert hK
  k_fill
  intro hK
  k_with_none
  have hF1 := fr1 hF hm
  clear hF
  have kdm := kdMark
  dsimp only [lawDef, defOf, lawEnv, lawA, lawE, hopBody, forBody, List.drop, List.take, List.cons_append, List.nil_append]
  all_goals (try k_fold)
  k_with "call ref" => (k_here; k_dflt first
    | (refine' heard2_claim w mean mg mb _ _ cR9 oCR cL9 oCL hTab ?hl9 ?hp9 _ _ _ _ _ _ _ _ _ _ _ _ _ _ _ _ _ _ ?k1 ?k2 ?k3 ?k4 ?k5 ?k6 ?k7 ?k8 ?k9 ?k10 ?_; (case hl9 => assumption); (case hp9 => assumption); (case k1 => k_asm); (case k2 => k_asm); (case k3 => k_asm); (case k4 => assumption); (case k5 => k_asm); (case k6 => exact rfl); (case k7 => assumption); (case k8 => decide +kernel); (case k9 => decide +kernel); (case k10 => (intro p9 hp9; simp only [List.mem_cons] at hp9 ⊢; have := hmem p9 (by simpa using hp9); (first | walk_at "subm" | simp [this]))); intro D9 wl9 us9 kk9 add9 tr9 h9 tk9 F9 N9 hD9 a1 a5 a6; refine heard_led2 N9 a1 a6 (by assumption) ?_; intro T9 hT9' hO9 hw9 N9'; clear N9)
    | (refine' quote_claim w mean mg mb _ _ ?hl9 _ _ _ _ _ _ _ _ _ _ _ _ _ _ _ _ _ _ ?k1 ?k2 ?k3 ?k4 ?k5 ?k6 ?k7 ?k8 ?k9 ?k10 ?_; (case hl9 => assumption); (case k1 => k_asm); (case k2 => k_asm); (case k3 => k_asm); (case k4 => k_asm); (case k5 => k_asm); (case k6 => exact rfl); (case k7 => exact List.forall_mem_nil _); (case k8 => trivial); (case k9 => decide +kernel); (case k10 => decide +kernel); intro t8 h8 tk8 F8 N8))
  k_steps
  rename Fr _ _ _ _ => zF
  rename News _ _ _ _ => zN
  rename Obj.data _ = Data.cell (some (.int (wordsX (dotF (fixF x))).2 _)) => zd
  refine hc wl9 us9 kk9 add9 _ _ _ _ _ _ zF rfl rfl ?_ ?_ zd hD9 a1 a6
  · intro y hy hy2
    (try dsimp only)
    rw [if_neg hy, if_neg hy2, if_neg hy2]
  · refine sub_news zN ?_
    rw [hT9']
    walk_at "sub"
end
end Mine
end
section
open PySem PySem.W PyProof.Rows
namespace Mine
theorem fresh_L5 : True := by
  k_with_none
  w_top off
  trivial
noncomputable def wordsP (runs : List Int) (j : Int) : Nat → List (Int × Str)
  | 0 => []
  | i + 1 => if 0 < runs.getD i 0 then wordsP runs j i ++ [((i : Int) + 1, dots (runs.getD i 0 + j))] else wordsP runs j i
theorem getD_mem {l : List Int} {i : Nat} (hi : i < l.length) : l.getD i 0 ∈ l := by
  rw [List.getD_eq_getElem?_getD, List.getElem?_eq_getElem hi]; exact List.getElem_mem hi
theorem dots_ok {r : Int} (h : r ≤ 10) : PyData.strOk (dots r) = true := by
  rw [dots_mk]
  have hN : ∀ n : Nat, n ≤ 10 → PyData.strOk ⟨(dotsN n).toArray⟩ = true := by decide +kernel
  exact hN _ (by omega)
theorem words_ok (runs : List Int) (j : Int) (h4 : runs.length ≤ 4) (hb : ∀ r ∈ runs, 0 ≤ r ∧ r ≤ 4) (hj : 0 ≤ j ∧ j ≤ 3) : ∀ d ∈ (wordsP runs j runs.length).map wordD, kqdOk 8 d = true := by
  have key : ∀ n, n ≤ runs.length → ∀ d ∈ (wordsP runs j n).map wordD, kqdOk 8 d = true := by
    intro n
    induction n with
    | zero => intro _ d hd; cases hd
    | succ n ih =>
      intro hn d hd
      rw [wordsP] at hd
      split at hd
      · rw [List.map_append, List.mem_append] at hd
        rcases hd with hd | hd
        · exact ih (by omega) d hd
        · have e : d = wordD ((n : Int) + 1, dots (runs.getD n 0 + j)) := by simpa using hd
          have hb2 : runs.getD n 0 ≤ 4 := (hb _ (getD_mem (by omega))).2
          have := dots_ok (r := runs.getD n 0 + j) (by omega)
          subst e
          simp only [wordD, kqdOk, List.all_cons, List.all_nil, this, Bool.and_true]
      · exact ih (by omega) d hd
  exact key _ (Nat.le_refl _)
theorem small_len {n : Nat} (h : n ≤ 20) : Builtin.Range.small 0 (n : Int) 1 = true := by
  have hN : ∀ k : Nat, k ≤ 20 → Builtin.Range.small 0 (k : Int) 1 = true := by decide +kernel
  exact hN n h
theorem size_len (n : Nat) : Builtin.Range.rangeSize 0 (n : Int) 1 = ((n : Nat) : Int) := by
  have := rangeSize_nat 0 (n : Int)
  simpa using this
section
theorem hop2 (w : World) (mean : ExcName → Option Value) (mg mb : Str → Option Value) (h₀ : Heap) (L fa : Nat) (cd : Value) (m : Str → Option Value) (s : Shared) (Q : Flow → Shared → Prop) (Ea Eb : Value → Shared → Prop) (rest : List Stmt)
    (wl rl k kk : Nat) (us rus : List Value) (runs : List Int) (ps : List (Int × Str)) (j rows : Int) (th tr : Tok) (oZ oR oH oN : Obj) (T : List (Addr × Obj))
    (hB : Below callerA h₀ [] h₀) (hK : (hd.heap_39 w.params).In h₀) (hT : Top topProg LooseL mean mg mb h₀) (hch : CodeHd h₀ 176 172)
    (hF : Fr h₀ L s.heap m) (hm : m (Str.ofString "words") = some (.ref wl))
    (hN : News h₀ L s.heap ((L + 1 + 1 + 1 + 1, oZ) :: (L + 1 + 1 + 1, oR) :: (L + 1 + 1, oH) :: (L + 1, oN) :: (wl, listOf us.toArray kk) :: (rl, listOf rus.toArray k) :: T))
    (hR : oR.data = .cell (some (.int rows tr))) (hH : oH.data = .cell (some (.int j th))) (hNn : oN.data = .cell (some (.ref rl)))
    (hI : IntsAre rus runs) (hr4 : runs.length ≤ 4) (hrb : ∀ r ∈ runs, 0 ≤ r ∧ r ≤ 4) (hj : 0 ≤ j ∧ j ≤ 3) (hD : DatAll T us (ps.map wordD)) (hps : ps = wordsP runs j runs.length) (hrows : rows = (runs.length : Int))
    (hc : ∀ (h' : Heap) (tk' : Nat), Fr h₀ L h' m → News h₀ L h' ((L + 1 + 1 + 1 + 1, oZ) :: (L + 1 + 1 + 1, oR) :: (L + 1 + 1, oH) :: (L + 1, oN) :: (wl, listOf us.toArray kk) :: (rl, listOf rus.toArray k) :: T) →
      wpAny (model Challenge.rw_pe0179_01.row.prog w) (lawA L fa cd) (execs rest (lawEnv L fa cd)) Q (fun e s1 => lawE w L fa cd Ea Eb e s1) { s with heap := h', toks := tk' }) :
    wpAny (model Challenge.rw_pe0179_01.row.prog w) (lawA L fa cd) (execs ((hopBody.drop 2).take 1 ++ rest) (lawEnv L fa cd)) Q (fun e s1 => lawE w L fa cd Ea Eb e s1) s := by
  revert hK
  k_fill
  intro hK
  k_with_none
  k_with "!eval ListComp" => (k_here; k_dflt (refine ListComp_X (by k_asm) (by with_unfolding_all rfl) (by decide) (by rfl) (by decide) ?_))
  have hF1 := fr1 hF hm
  clear hF
  have kdm := kdMark
  dsimp only [lawDef, defOf, lawEnv, lawA, lawE, hopBody, forBody, List.drop, List.take, List.cons_append, List.nil_append]
  all_goals (try k_fold)
  k_steps
  rename Fr _ _ _ _ => kF
  rename News _ _ _ _ => kN
  rename IsRange _ _ _ _ _ _ _ _ => kR
  refine srcX_rangeS runs.length (fun i ys nw' => ∃ add, nw' = (L + 1 + 1 + 1 + 1, oZ) :: (L + 1 + 1 + 1, oR) :: (L + 1 + 1, oH) :: (L + 1, oN) :: (wl, listOf us.toArray kk) :: (rl, listOf rus.toArray k) :: (T ++ add) ∧ DatAll add ys ((wordsP runs j i).map wordD))
    rfl kF (kN) kR ?hsm ?hn ?hsz ⟨[], by simp, .nil⟩ rfl rfl ?turn ?fin
  case hsm => exact small_len (by omega)
  case hn => exact size_len _
  case hsz => rw [sizeLine_eq]; omega
  case turn =>
    clear kF kN kR
    rintro i t ys nw' I oI C oC D m₂ h tk E' hi ⟨add, rfl, hDA⟩ hC hX F N off hne
    have hri : runs.getD (Int.toNat (0 + (i : Int))) 0 = runs.getD i 0 := by simp
    have hrb2 : 0 ≤ runs.getD (Int.toNat (0 + (i : Int))) 0 ∧ runs.getD (Int.toNat (0 + (i : Int))) 0 ≤ 4 := by
      rw [hri]; exact hrb _ (getD_mem hi)
    have off1 := off
    simp only [LCg.Off3] at off
    refine cps ?_
    intro C9 hC9
    obtain ⟨o1, o2, o3, o4, o5, o6, o7⟩ := off
    refine hC9 ?_
    clear hC9 C9
    refine tst_one ?_
    k_steps
    · rename 0 < _ => hpos
      rename_i D9 h9 F9 N9 l9
      refine take1 N9 ?_
      intro ob hob N9'
      clear N9
      have hob := (Prod.ext_iff.mp hob).2
      dsimp only at hob N9'
      refine cend_same F9 N9' (nw := (L + 1 + 1 + 1 + 1, oZ) :: (L + 1 + 1 + 1, oR) :: (L + 1 + 1, oH) :: (L + 1, oN) :: (wl, listOf us.toArray kk) :: (rl, listOf rus.toArray k) :: (T ++ ((D9, ob) :: add))) ?_ ?_ ⟨_, rfl, ?_⟩
      · walk_at "sub"
      · refine LCg.Off3.of fun p hp => ?_
        have hn : D9 ≠ I ∧ D9 ≠ C ∧ D9 ≠ D := ⟨Nat.ne_of_gt l9.1, Nat.ne_of_gt l9.2.1, Nat.ne_of_gt l9.2.2.1⟩
        have hp2 : p.1 = D9 ∨ p ∈ (L + 1 + 1 + 1 + 1, oZ) :: (L + 1 + 1 + 1, oR) :: (L + 1 + 1, oH) :: (L + 1, oN) :: (wl, listOf us.toArray kk) :: (rl, listOf rus.toArray k) :: (T ++ add) := by
          simp only [List.mem_cons, List.mem_append] at hp ⊢
          grind
        rcases hp2 with e | hp2
        · rw [e]; exact hn
        · exact off1.mem p hp2
      · rw [hri] at hpos hob
        rw [wordsP, if_pos hpos]
        have e0 : (0 : Int) + (i : Int) + 1 = (i : Int) + 1 := by omega
        exact words_snoc hDA (by rw [hob, e0]; rfl)
    · rename ¬ 0 < _ => hpos
      refine cend_same F N (fun p hp => hp) off1 ⟨_, rfl, ?_⟩
      rw [hri] at hpos
      rw [wordsP, if_neg hpos]
      exact hDA
  case fin =>
    clear kF kN kR
    rintro g ys nw' ⟨add, rfl, hDA⟩
    unfold LCg.FinE
    intro D9 h9 tk9 F9 N9 o9
    refine kqd_ne (xs := us) (ys := ys) N9 (ma := List.mem_cons_of_mem _ (List.mem_cons_of_mem _ (List.mem_cons_of_mem _ (List.mem_cons_of_mem _ (List.mem_cons_of_mem _ (List.mem_cons_self ..)))))) rfl rfl hD ?_ (mb := List.mem_cons_self ..) rfl rfl hDA ?_ ?_ ?_ (lawU L fa cd) ?_
    · intro p hp; (first | walk_at "subm" | simp [hp])
    · intro p hp; (first | walk_at "subm" | simp [hp])
    · rw [hps]; exact words_ok runs j hr4 hrb hj
    · exact words_ok runs j hr4 hrb hj
    · rw [hps]
      simp only [decide_true, Bool.not_true]
      have hN9 := sub_news N9 (l' := (L + 1 + 1 + 1 + 1, oZ) :: (L + 1 + 1 + 1, oR) :: (L + 1 + 1, oH) :: (L + 1, oN) :: (wl, listOf us.toArray kk) :: (rl, listOf rus.toArray k) :: T) (by walk_at "sub")
      clear N9 hD hps hDA
      k_steps
      · exact absurd hrows (by assumption)
      · dsimp only
        rename Fr _ _ _ _ => zF
        rw [kept0 hm] at zF
        exact hc _ _ zF hN9
end
end Mine
end
section
open PySem PySem.W PyProof.Rows PySem.Calls PyProof.Rows.LCg
namespace Mine
theorem fresh_LW : True := by
  k_with_none
  w_top off
  trivial
section
variable {prog : Program} {w : World} {A : Around} {E : Value → Shared → Prop} {s : Shared} {h₀ : Heap} {L : Addr} {m : Str → Option Value} {env : Env}
theorem filtq_yes {α : Type} {p : α → Bool} {ns : List α} {i : Nat} {r : α} (hi : ns[i]? = some r) (hp : p r = true) : (ns.take (i + 1)).filter p = (ns.take i).filter p ++ [r] := by
  rw [List.take_add_one, hi, Option.toList_some, List.filter_append]; (first | walk_at "subm" | simp [hp])
theorem filtq_no {α : Type} {p : α → Bool} {ns : List α} {i : Nat} {r : α} (hi : ns[i]? = some r) (hp : p r = false) : (ns.take (i + 1)).filter p = (ns.take i).filter p := by
  rw [List.take_add_one, hi, Option.toList_some, List.filter_append]; (first | walk_at "subm" | simp [hp])
theorem srcX_words {x x₂ : Str} {px px₂ tp : Pos} {tkk} {elt : Expr} {ifs : List Expr} {scope : Scope} {cl : List (Str × Addr)} {Fin : Shared → List Value → List (Addr × Obj) → Prop} {ax : Addr} {us : List Value} {ps : List (Int × Str)} {n : Nat} {nw T : List (Addr × Obj)} {s₁ : Shared} (p : Int × Str → Bool) (R : List Value → List (Int × Str) → Prop)
    (hh : A.handled = none) (F : Fr h₀ L s₁.heap m) (N : News h₀ L s₁.heap nw) (hm : (ax, listOf us.toArray n) ∈ nw) (hD : DatAll T us (ps.map wordD)) (hTn : ∀ p ∈ T, p ∈ nw) (hsz : ps.length ≤ sizeLine) (hkind : scope.kind = .function) (hx : scope.names.lookup x = some .local) (hx₂ : scope.names.lookup x₂ = some .local) (hxx : x ≠ x₂) (h0 : R [] [])
    (turn : ∀ q t1 t2 ys pre, q ∈ ps → R ys pre → TurnS prog w A h₀ L m env elt ifs scope cl s₁ nw (fun m₂ => m₂ x = some (.int q.1 t1) ∧ m₂ x₂ = some (.str q.2 t2)) ys (fun y => p q = true ∧ R (ys ++ [y]) (pre ++ [q])) (p q = false))
    (fin : ∀ g ys, R ys (ps.filter p) → Fin { s₁ with heap := g } ys nw) : SrcX prog w A h₀ L m env elt (.Tuple [.Name x px, .Name x₂ px₂] tkk tp) ifs scope cl Fin (.ref ax) s₁ := by
  have hl := hD.length
  rw [List.length_map] at hl
  have hsz' : us.toArray.size = ps.length := by rw [List.size_toArray, hl]
  refine srcX_list (its := us.toArray) (nw := nw) (fun i _ m₂ => ∃ v₁ v₂, (∃ q t1 t2, ps[i]? = some q ∧ v₁ = .int q.1 t1 ∧ v₂ = .str q.2 t2) ∧ m₂ x = some v₁ ∧ m₂ x₂ = some v₂) (fun i ys nw' => nw' = nw ∧ R ys ((ps.take i).filter p)) hh F N (fun i ys nw' h => .inr ⟨_, h.1 ▸ hm, rfl, _, rfl⟩) (by rw [hsz']; exact hsz) ⟨rfl, by simpa using h0⟩
    (fun g I => takes_pair (Y := fun i v₁ v₂ => ∃ q t1 t2, ps[i]? = some q ∧ v₁ = .int q.1 t1 ∧ v₂ = .str q.2 t2) hh hkind hx hx₂ hxx ?_) (fun g => ?_) (fun g ys nw' h => ?_)
  · rintro i v ys nw' hi hv ⟨rfl, hR⟩
    have hv' : us[i]? = some v := by simpa using hv
    refine cps ?_
    intro C9 hC9
    obtain ⟨hi', t, nt, t1, t2, rfl, hmem⟩ := word_of hD hv'
    refine hC9 ?_
    clear hC9 C9
    exact ⟨t, _, _, _, _, rfl, hTn _ hmem, rfl, rfl, ps[i], t1, t2, List.getElem?_eq_getElem hi', rfl, rfl⟩
  · rintro i v ys nw' I oI C oC D m₂ h tk E' hi hv ⟨rfl, hR⟩ hC hX9
    refine cps ?_
    intro C9 hC9
    obtain ⟨v₁, v₂, ⟨q, t1, t2, hq, rfl, rfl⟩, hX1, hX2⟩ := hX9
    refine hC9 ?_
    clear hC9 C9
    rintro F₁ N₁ off hne
    refine wpAny_mono (turn q t1 t2 ys _ (List.mem_of_getElem? hq) hR I oI C oC D m₂ h tk E' hC ⟨hX1, hX2⟩ F₁ N₁ off hne) (fun ok s₃ z => ?_) fun _ _ e => e
    cases ok with
    | true =>
      simp only [if_true] at z ⊢
      refine wpAny_mono z (fun y s₄ ⟨h', tk', nw', e, F', N', off', e2, hp, hR'⟩ => ⟨h', tk', nw', e, F', N', off', e2, ?_⟩) fun _ _ e => e
      rw [filtq_yes hq hp]; exact hR'
    | false =>
      simp only [Bool.false_eq_true, if_false] at z ⊢
      refine cps ?_
      intro C9 hC9
      obtain ⟨h', tk', nw', e, F', N', off', e2, hp⟩ := z
      refine hC9 ?_
      clear hC9 C9
      refine ⟨h', tk', nw', e, F', N', off', e2, ?_⟩
      rw [filtq_no hq hp]; exact hR
  · obtain ⟨rfl, hR⟩ := h
    rw [hsz', List.take_length] at hR
    exact fin g ys hR
end
noncomputable def lens (ps : List (Int × Str)) : List Int := ps.map fun q => (q.2.length : Int)
noncomputable def endedF (rows : Int) (ps : List (Int × Str)) : List Int := lens (ps.filter fun q => decide (q.1 < rows))
end Mine
end
section
open PySem PySem.W PyProof.Rows
namespace Mine
theorem fresh_L6 : True := by
  k_with_none
  w_top off
  trivial
theorem off1_ne {D : Addr} : ∀ {l : List (Addr × Obj)}, LCg.Off1 D l → ∀ p ∈ l, p.1 ≠ D
  | [], _, _, h => nomatch h
  | _ :: _, x, p, h => by
    rcases List.mem_cons.mp h with rfl | h
    · exact x.1
    · exact off1_ne x.2 p h
section
theorem hop3 (w : World) (mean : ExcName → Option Value) (mg mb : Str → Option Value) (h₀ : Heap) (L fa : Nat) (cd : Value) (m : Str → Option Value) (s : Shared) (Q : Flow → Shared → Prop) (Ea Eb : Value → Shared → Prop) (rest : List Stmt)
    (wl ml kk mk : Nat) (us mus : List Value) (met : List Int) (ps : List (Int × Str)) (j rows : Int) (th tr : Tok) (oZ oR oH oN : Obj) (T : List (Addr × Obj))
    (hB : Below callerA h₀ [] h₀) (hK : (hd.heap_39 w.params).In h₀) (hT : Top topProg LooseL mean mg mb h₀) (hch : CodeHd h₀ 176 172)
    (hF : Fr h₀ L s.heap m) (hm : m (Str.ofString "words") = some (.ref wl)) (hm2 : m (Str.ofString "met") = some (.ref ml))
    (hN : News h₀ L s.heap ((L + 1 + 1 + 1 + 1, oZ) :: (L + 1 + 1 + 1, oR) :: (L + 1 + 1, oH) :: (L + 1, oN) :: (wl, listOf us.toArray kk) :: (ml, listOf mus.toArray mk) :: T))
    (hR : oR.data = .cell (some (.int rows tr))) (hH : oH.data = .cell (some (.int j th)))
    (hI : IntsAre mus met) (hml : met.length ≤ 100) (hj : 0 = j ∨ 0 < j) (hD : DatAll T us (ps.map wordD)) (hpl : ps.length ≤ 4) (hpw : ∀ p ∈ ps, p.2.length ≤ 500)
    (hc : ∀ (el ml' mk' : Nat) (eus mus' : List Value) (M' : Str → Option Value) (h' : Heap) (tk' : Nat), Fr h₀ L h' M' → M' (Str.ofString "ended") = some (.ref el) → M' (Str.ofString "met") = some (.ref ml') → (∀ y, y ≠ Str.ofString "ended" → y ≠ Str.ofString "met" → M' y = m y) →
      News h₀ L h' ((L + 1 + 1 + 1 + 1, oZ) :: (L + 1 + 1 + 1, oR) :: (L + 1 + 1, oH) :: (L + 1, oN) :: (wl, listOf us.toArray kk) :: (ml', listOf mus'.toArray mk') :: (el, listOf eus.toArray eus.length) :: T) → IntsAre eus (endedF rows ps) → IntsAre mus' (if 0 < j then met ++ endedF rows ps else met) →
      (∀ p ∈ (L + 1 + 1 + 1 + 1, oZ) :: (L + 1 + 1 + 1, oR) :: (L + 1 + 1, oH) :: (L + 1, oN) :: (wl, listOf us.toArray kk) :: (ml, listOf mus.toArray mk) :: T, p.1 ≠ el) → (ml' = ml ∨ ∀ p ∈ (el, listOf eus.toArray eus.length) :: (L + 1 + 1 + 1 + 1, oZ) :: (L + 1 + 1 + 1, oR) :: (L + 1 + 1, oH) :: (L + 1, oN) :: (wl, listOf us.toArray kk) :: (ml, listOf mus.toArray mk) :: T, p.1 < ml') →
      wpAny (model Challenge.rw_pe0179_01.row.prog w) (lawA L fa cd) (execs rest (lawEnv L fa cd)) Q (fun e s1 => lawE w L fa cd Ea Eb e s1) { s with heap := h', toks := tk' }) :
    wpAny (model Challenge.rw_pe0179_01.row.prog w) (lawA L fa cd) (execs ((hopBody.drop 3).take 2 ++ rest) (lawEnv L fa cd)) Q (fun e s1 => lawE w L fa cd Ea Eb e s1) s := by
  revert hK
  k_fill
  intro hK
  k_with_none
  k_with "!exec Assign cons ListComp" => (k_here; k_dflt (refine Assign_ListComp_X (by k_asm) (by rfl) (by with_unfolding_all rfl) (by with_unfolding_all rfl) (by decide) (by rfl) (by decide) (by rfl) (by rfl) ?_))
  have hF1 := fr1 (fr1 hF hm2) (a := Str.ofString "words") (by rw [if_neg (by decide +kernel)]; exact hm)
  clear hF
  have kdm := kdMark
  dsimp only [lawDef, defOf, lawEnv, lawA, lawE, hopBody, forBody, List.drop, List.take, List.cons_append, List.nil_append]
  all_goals (try k_fold)
  k_steps
  rename Fr _ _ _ _ => kF
  rename News _ _ _ _ => kN
  refine srcX_words (T := T) (fun q => decide (q.1 < rows)) (fun ys pre => IntsAre ys (lens pre)) rfl kF kN (by k_mem) hD (by intro p hp; (first | walk_at "subm" | simp [hp])) (by rw [sizeLine_eq]; omega) rfl rfl rfl (by decide +kernel) .nil ?turn ?fin
  case turn =>
    clear kF kN
    rintro q t1 t2 ys pre hq hR2 I oI C oC D m₂ h tk E' hC ⟨hX, hX2⟩ F N off hne
    have hw := hpw q hq
    have off1 := off
    simp only [LCg.Off3] at off
    refine cps ?_
    intro C9 hC9
    obtain ⟨o1, o2, o3, o4, o5, o6, o7⟩ := off
    refine hC9 ?_
    clear hC9 C9
    refine tst_one ?_
    k_steps
    · rename q.1 < rows => hlt
      refine cend_same (by assumption) (by assumption) (fun p hp => hp) off1 ⟨rfl, decide_eq_true hlt, ?_⟩
      unfold lens
      rw [List.map_append]
      exact ints_snoc hR2
    · rename ¬ q.1 < rows => hlt
      exact cend_same (by assumption) (by assumption) (fun p hp => hp) off1 ⟨rfl, decide_eq_false hlt⟩
  case fin =>
    clear kF kN
    intro g ys hR2
    have hel : (endedF rows ps).length ≤ 4 := by
      unfold endedF lens; rw [List.length_map]; exact Nat.le_trans (List.length_filter_le _ _) hpl
    rcases hj with hj | hj
    · subst hj
      k_steps
      rename Fr _ _ _ _ => zF
      rename News _ _ _ _ => zN
      rename _ ∧ _ ∧ _ ∧ _ ∧ _ ∧ _ ∧ LCg.Off1 _ _ => zo
      dsimp only at zF ⊢
      refine hc _ ml mk ys mus _ _ _ zF rfl rfl ?_ (sub_news zN ?_) hR2 (by simpa using hI) ?_ (.inl rfl)
      · intro y h1 h2
        simp only [if_neg h1, if_neg h2]
        by_cases h3 : y = Str.ofString "words"
        · rw [if_pos h3, h3, hm]
        · rw [if_neg h3]
      · walk_at "sub"
      · exact off1_ne (l := (L + 1 + 1 + 1 + 1, oZ) :: (L + 1 + 1 + 1, oR) :: (L + 1 + 1, oH) :: (L + 1, oN) :: (wl, listOf us.toArray kk) :: (ml, listOf mus.toArray mk) :: T) zo
    · k_steps
      rename Fr _ _ _ _ => zF
      rename News _ _ _ _ => zN
      rename _ ∧ _ ∧ _ ∧ _ ∧ _ ∧ _ ∧ LCg.Off1 _ _ => zo
      k_dflt (refine' kmk_add_ints zF zN ?ya ?yb hI hR2 ?_ ?yz)
      (case ya => kmk_list)
      (case yb => kmk_list)
      (case yz => exact Nat.le_trans (Nat.add_le_add hml hel) (by rw [sizeLine_eq]; decide))
      intro D8 ws8 h8 F8 N8 l8 hI8
      have l9 := l8
      k_lt l8
      clear zF zN
      k_steps
      rename Fr _ _ _ _ => zF
      rename News _ _ _ _ => zN
      dsimp only at zF ⊢
      refine hc _ D8 0 ys ws8 _ _ _ zF rfl rfl ?_ (sub_news zN ?_) hR2 (by rw [if_pos hj]; exact hI8) ?_ (.inr l9)
      · intro y h1 h2
        simp only [if_neg h1, if_neg h2]
        by_cases h3 : y = Str.ofString "words"
        · rw [if_pos h3, h3, hm]
        · rw [if_neg h3]
      · walk_at "sub"
      · exact off1_ne (l := (L + 1 + 1 + 1 + 1, oZ) :: (L + 1 + 1 + 1, oR) :: (L + 1 + 1, oH) :: (L + 1, oN) :: (wl, listOf us.toArray kk) :: (ml, listOf mus.toArray mk) :: T) zo
end
end Mine
end
section
open PySem PySem.W PyProof.Rows
namespace Mine
theorem fresh_L7 : True := by
  k_with_none
  w_top off
  trivial
section
theorem hop5 (w : World) (mean : ExcName → Option Value) (mg mb : Str → Option Value) (h₀ : Heap) (L fa : Nat) (cd : Value) (m : Str → Option Value) (s : Shared) (Q : Flow → Shared → Prop) (Ea Eb : Value → Shared → Prop) (rest : List Stmt)
    (wl kk : Nat) (us : List Value) (ps : List (Int × Str)) (rows : Int) (lead : List Int) (tr : Tok) (oZ oR oH oN : Obj) (T : List (Addr × Obj))
    (hB : Below callerA h₀ [] h₀) (hK : (hd.heap_39 w.params).In h₀) (hT : Top topProg LooseL mean mg mb h₀) (hch : CodeHd h₀ 176 172)
    (hF : Fr h₀ L s.heap m) (hm : m (Str.ofString "words") = some (.ref wl))
    (hN : News h₀ L s.heap ((L + 1 + 1 + 1 + 1, oZ) :: (L + 1 + 1 + 1, oR) :: (L + 1 + 1, oH) :: (L + 1, oN) :: (wl, listOf us.toArray kk) :: T))
    (hR : oR.data = .cell (some (.int rows tr)))
    (hD : DatAll T us (ps.map wordD)) (hpl : ps.length ≤ 4) (hb : ∀ p ∈ ps, 0 ≤ p.1 ∧ p.1 ≤ 100 ∧ p.2.length ≤ 100) (hr : 0 ≤ rows ∧ rows ≤ 100)
    (hll : (leadF ps rows).length ≤ 90) (hlead : KStt.codes (leadF ps rows ++ Str.ofString "x ") = lead ++ [120, 32]) (hle : ∀ x ∈ lead, x = 32 ∨ x = 9)
    (hc : ∀ (W : WsT) (M' : Str → Option Value) (h' : Heap) (tk' : Nat), Fr h₀ L h' M' → M' (Str.ofString "page") = some (.ref W.x) → (∀ y, y ≠ Str.ofString "page" → M' y = m y) →
      News h₀ L h' (W.objs w.params ++ (L + 1 + 1 + 1 + 1, oZ) :: (L + 1 + 1 + 1, oR) :: (L + 1 + 1, oH) :: (L + 1, oN) :: (wl, listOf us.toArray kk) :: T) →
      IntsAre W.vs (initF lead).cnt → W.n = (initF lead).n → W.b = (initF lead).b → W.nt = (initF lead).nt → W.simple = decide ((initF lead).cnt.length ≤ 1) →
      (∀ p ∈ W.objs w.params, AllLt p.1 ((L + 1 + 1 + 1 + 1, oZ) :: (L + 1 + 1 + 1, oR) :: (L + 1 + 1, oH) :: (L + 1, oN) :: (wl, listOf us.toArray kk) :: T)) →
      wpAny (model Challenge.rw_pe0179_01.row.prog w) (lawA L fa cd) (execs rest (lawEnv L fa cd)) Q (fun e s1 => lawE w L fa cd Ea Eb e s1) { s with heap := h', toks := tk' }) :
    wpAny (model Challenge.rw_pe0179_01.row.prog w) (lawA L fa cd) (execs ((hopBody.drop 5).take 1 ++ rest) (lawEnv L fa cd)) Q (fun e s1 => lawE w L fa cd Ea Eb e s1) s := by
  revert hK
  k_fill
  intro hK
  k_with_none
  have hF1 := fr1 hF hm
  clear hF
  have kdm := kdMark
  have hws : (leadF ps rows ++ Str.ofString "x ").length ≤ 100 := by
    rw [Str.length_append]
    have : (Str.ofString "x ").length = 2 := by decide +kernel
    omega
  dsimp only [lawDef, defOf, lawEnv, lawA, lawE, hopBody, forBody, List.drop, List.take, List.cons_append, List.nil_append]
  all_goals (try k_fold)
  k_with "call ref" => (k_here; k_dflt first
    | (refine' lead_claim w mean mg mb wl us kk T ps hD _ _ hb hr (by omega) _ _ _ _ _ _ _ _ _ _ _ _ _ _ _ _ _ _ ?k1 ?k2 ?k3 ?k4 ?k5 ?k6 ?k7 ?k8 ?k9 ?k10 ?_; (case k1 => k_asm); (case k2 => k_asm); (case k3 => k_asm); (case k4 => k_asm); (case k5 => k_asm); (case k6 => exact rfl); (case k7 => (walk_at "sub")); (case k8 => trivial); (case k9 => decide +kernel); (case k10 => decide +kernel); intro t8 h8 tk8 F8 N8)
    | (refine' init_claim w mean mg mb _ _ lead hlead hle hws _ _ _ _ _ _ _ _ _ _ _ _ _ _ _ _ _ _ ?k1 ?k2 ?k3 ?k4 ?k5 ?k6 ?k9 ?k10 ?_; (case k1 => k_asm); (case k2 => k_asm); (case k3 => k_asm); (case k4 => k_asm); (case k5 => k_asm); (case k6 => exact rfl); (case k9 => decide +kernel); (case k10 => decide +kernel); intro W9 h9 tk9 F9 N9 i1 i2 i3 i4 i5 a1 a2 a3 a4))
  k_steps
  rename Fr _ _ _ _ => zF
  rename News _ _ _ _ => zN
  refine hc W9 _ _ _ zF rfl ?_ zN i1 i2 i3 i4 i5 ?_
  · intro y hy
    rw [if_neg hy]
    exact congrFun (kept0 hm) y
  · intro p hp
    simp only [WsT.objs, List.mem_cons, List.not_mem_nil, or_false] at hp
    rcases hp with rfl | rfl | rfl | rfl
    · exact a1
    · exact a2
    · exact a3
    · exact a4
end
end Mine
end
section
open PySem PySem.W PyProof.Rows
namespace Mine
theorem fresh_L8 : True := by
  k_with_none
  w_top off
  trivial
theorem kept3 {m : Str → Option Value} {a b c : Str} {u v x : Value} (h1 : m a = some u) (h2 : m b = some v) (h3 : m c = some x) : (fun y => if y = a then some u else if y = b then some v else if y = c then some x else m y) = m := by
  funext y
  by_cases q : y = a
  · rw [if_pos q, q, h1]
  · rw [if_neg q]
    by_cases q : y = b
    · rw [if_pos q, q, h2]
    · rw [if_neg q]
      by_cases q : y = c
      · rw [if_pos q, q, h3]
      · rw [if_neg q]
section
theorem hop6 (w : World) (mean : ExcName → Option Value) (mg mb : Str → Option Value) (h₀ : Heap) (L fa : Nat) (cd : Value) (m : Str → Option Value) (s : Shared) (Q : Flow → Shared → Prop) (Ea Eb : Value → Shared → Prop) (rest : List Stmt)
    (wl el kk ek : Nat) (us eus : List Value) (ended : List Int) (ps : List (Int × Str)) (rows : Int) (W : WsT) (tr : Tok) (oZ oR oH oN : Obj) (T : List (Addr × Obj))
    (hB : Below callerA h₀ [] h₀) (hK : (hd.heap_39 w.params).In h₀) (hT : Top topProg LooseL mean mg mb h₀) (hch : CodeHd h₀ 176 172)
    (hF : Fr h₀ L s.heap m) (hm : m (Str.ofString "words") = some (.ref wl)) (hm2 : m (Str.ofString "page") = some (.ref W.x)) (hm3 : m (Str.ofString "ended") = some (.ref el))
    (hN : News h₀ L s.heap (W.objs w.params ++ (L + 1 + 1 + 1 + 1, oZ) :: (L + 1 + 1 + 1, oR) :: (L + 1 + 1, oH) :: (L + 1, oN) :: (wl, listOf us.toArray kk) :: (el, listOf eus.toArray ek) :: T))
    (hR : oR.data = .cell (some (.int rows tr))) (hI : IntsAre eus ended) (hel : ended.length ≤ 4)
    (hD : DatAll T us (ps.map wordD)) (hpl : ps.length ≤ 4) (hb : ∀ p ∈ ps, p.2.length ≤ 500) (hr : 0 ≤ rows ∧ rows ≤ 100)
    (hn : W.n = (lens ps).sum + rows - 1) (hnt : W.nt = rows - 1) (hs : W.simple = decide (ended = []))
    (hc : ∀ (h' : Heap) (tk' : Nat), Fr h₀ L h' m →
      News h₀ L h' (W.objs w.params ++ (L + 1 + 1 + 1 + 1, oZ) :: (L + 1 + 1 + 1, oR) :: (L + 1 + 1, oH) :: (L + 1, oN) :: (wl, listOf us.toArray kk) :: (el, listOf eus.toArray ek) :: T) →
      wpAny (model Challenge.rw_pe0179_01.row.prog w) (lawA L fa cd) (execs rest (lawEnv L fa cd)) Q (fun e s1 => lawE w L fa cd Ea Eb e s1) { s with heap := h', toks := tk' }) :
    wpAny (model Challenge.rw_pe0179_01.row.prog w) (lawA L fa cd) (execs ((hopBody.drop 6).take 1 ++ rest) (lawEnv L fa cd)) Q (fun e s1 => lawE w L fa cd Ea Eb e s1) s := by
  revert hK
  k_fill
  intro hK
  k_with_none
  k_with "!eval ListComp" => (k_here; k_dflt (refine ListComp_X (by k_asm) (by with_unfolding_all rfl) (by decide) (by rfl) (by decide) ?_))
  have hF1 := fr1 (fr1 (fr1 hF hm3) (a := Str.ofString "page") (by rw [if_neg (by decide +kernel)]; exact hm2)) (a := Str.ofString "words") (by rw [if_neg (by decide +kernel), if_neg (by decide +kernel)]; exact hm)
  clear hF
  have kdm := kdMark
  dsimp only [WsT.objs, List.cons_append, List.nil_append] at hN
  dsimp only [lawDef, defOf, lawEnv, lawA, lawE, hopBody, forBody, List.drop, List.take, List.cons_append, List.nil_append]
  all_goals (try k_fold)
  k_steps
  rename Fr _ _ _ _ => kF
  rename News _ _ _ _ => kN
  refine srcX_words (T := T) (fun _ => true) (fun ys pre => IntsAre ys (lens pre)) rfl kF kN (by k_mem) hD (by intro p hp; (first | walk_at "subm" | simp [hp])) (by rw [sizeLine_eq]; omega) rfl rfl rfl (by decide +kernel) .nil ?turn ?fin
  case turn =>
    clear kF kN
    rintro q t1 t2 ys pre hq hR2 I oI C oC D m₂ h tk E' hC ⟨hX, hX2⟩ F N off hne
    have hw := hb q hq
    have off1 := off
    simp only [LCg.Off3] at off
    refine tst_nil ?_
    simp only [if_true]
    k_steps
    refine cend_same (by assumption) (by assumption) (fun p hp => hp) off1 ⟨rfl, trivial, ?_⟩
    unfold lens
    rw [List.map_append]
    exact ints_snoc hR2
  case fin =>
    clear kF kN
    intro g ys hR2
    rw [List.filter_eq_self.mpr (fun _ _ => rfl)] at hR2
    k_steps
    · rename (W.simple != decide (ended = [])) = true => hbad
      rw [hs] at hbad
      simp at hbad
    · rename Fr _ _ _ _ => zF
      rename News _ _ _ _ => zN
      dsimp only at zF ⊢
      rw [kept3 hm hm2 hm3] at zF
      refine hc _ _ zF (sub_news zN ?_)
      walk_at "sub"
    · rename (W.n == (lens ps).sum + rows - 1 && W.nt == rows - 1) = false => hbad
      rw [hn, hnt] at hbad
      simp at hbad
end
end Mine
end
section
open PySem PySem.W PyProof.Rows
namespace Mine
theorem fresh_L9 : True := by
  k_with_none
  w_top off
  trivial
theorem kept2 {m : Str → Option Value} {a b : Str} {u v : Value} (h1 : m a = some u) (h2 : m b = some v) : (fun y => if y = a then some u else if y = b then some v else m y) = m := by
  funext y
  by_cases q : y = a
  · rw [if_pos q, q, h1]
  · rw [if_neg q]
    by_cases q : y = b
    · rw [if_pos q, q, h2]
    · rw [if_neg q]
theorem hop7 (w : World) (mean : ExcName → Option Value) (mg mb : Str → Option Value) (h₀ : Heap) (L fa : Nat) (cd : Value) (m : Str → Option Value) (s : Shared) (Q : Flow → Shared → Prop) (Ea Eb : Value → Shared → Prop) (rest : List Stmt)
    (pl pk x : Nat) (pus : List Value) (T : List (Addr × Obj))
    (hB : Below callerA h₀ [] h₀) (hK : (hd.heap_39 w.params).In h₀) (hT : Top topProg LooseL mean mg mb h₀) (hch : CodeHd h₀ 176 172)
    (hF : Fr h₀ L s.heap m) (hm : m (Str.ofString "pages") = some (.ref pl)) (hm2 : m (Str.ofString "page") = some (.ref x))
    (hN : News h₀ L s.heap ((pl, listOf pus.toArray pk) :: T)) (hpl : pus.length ≤ 10) (hO : OwnOff T [pl])
    (hc : ∀ (h' : Heap) (tk' : Nat), Fr h₀ L h' m →
      News h₀ L h' ((pl, listOf (pus ++ [Value.ref x]).toArray (pk + 1)) :: T) →
      wpAny (model Challenge.rw_pe0179_01.row.prog w) (lawA L fa cd) (execs rest (lawEnv L fa cd)) Q (fun e s1 => lawE w L fa cd Ea Eb e s1) { s with heap := h', toks := tk' }) :
    wpAny (model Challenge.rw_pe0179_01.row.prog w) (lawA L fa cd) (execs ((hopBody.drop 7).take 1 ++ rest) (lawEnv L fa cd)) Q (fun e s1 => lawE w L fa cd Ea Eb e s1) s := by
  revert hK
  k_fill
  intro hK
  k_with_none
  have hF1 := fr1 (fr1 hF hm2) (a := Str.ofString "pages") (by rw [if_neg (by decide +kernel)]; exact hm)
  clear hF
  have kdm := kdMark
  have hz : pus.toArray.size ≤ sizeLine := by rw [List.size_toArray, sizeLine_eq]; omega
  dsimp only [lawDef, defOf, lawEnv, lawA, lawE, hopBody, forBody, List.drop, List.take, List.cons_append, List.nil_append]
  all_goals (try k_fold)
  k_steps
  rename Fr _ _ _ _ => zF
  rename News _ _ _ _ => zN
  rw [kept2 hm hm2] at zF
  rw [show pus.toArray.push (Value.ref x) = (pus ++ [Value.ref x]).toArray from by simp] at zN
  exact hc _ _ zF zN
end Mine
end
section
open PySem PySem.W PyProof.Rows PyProof.Rows.LCg
namespace Mine
theorem fresh_LR : True := by
  k_with_none
  w_top off
  trivial
/-- a turn's end -/
noncomputable def NextAt (h₀ : Heap) (L : Addr) (J : (Str → Option Value) → List (Addr × Obj) → Prop) (I : Nat) (oI : Obj) (s : Shared) (s' : Shared) : Prop :=
  ∃ h' tk' m' nx', s' = { s with heap := h', toks := tk' } ∧ Fr h₀ L h' m' ∧ News h₀ L h' ((I, oI) :: nx') ∧ (∀ p ∈ nx', p.1 ≠ I) ∧ J m' nx'
noncomputable def HopPost (h₀ : Heap) (L : Addr) (J : (Str → Option Value) → List (Addr × Obj) → Prop) (I : Nat) (oI : Obj) (s : Shared) (Q : Flow → Shared → Prop) (f : Flow) (s' : Shared) : Prop :=
  match f with
  | .ret v => Q (.ret v) s'
  | .brk => Q .next s'
  | .next => NextAt h₀ L J I oI s s'
  | .cont => NextAt h₀ L J I oI s s'
section
variable {prog : Program} {w : World} {A : Around} {E : Value → Shared → Prop} {s : Shared} {env : Env} {h₀ : Heap} {body : List Stmt} {Q : Flow → Shared → Prop}
theorem range_loop {x : Str} {px : Pos} {r : Addr} {a b : Int} {t u v : Tok} {n : Nat} {m₀ : Str → Option Value} {news : List (Addr × Obj)} (J : Nat → (Str → Option Value) → List (Addr × Obj) → Prop)
    (hh : A.handled = none) (hr : IsRange s.heap r a b 1 t u v) (hsm : Builtin.Range.small a b 1 = true) (hn : Builtin.Range.rangeSize a b 1 = ((n : Nat) : Int)) (F : Fr h₀ env.locals s.heap m₀) (N : News h₀ env.locals s.heap news) (h0 : J 0 m₀ news)
    (turn : ∀ (i : Nat) t' m nx (I : Nat) oI h tk, i < n → J i m nx → Fr h₀ env.locals h m → News h₀ env.locals h ((I, oI) :: nx) → (∀ p ∈ nx, p.1 ≠ I) →
      wpAny (model prog w) A (assign (.Name x px) env (.int (a + (i : Int)) t')) (fun _ s₃ => wpAny (model prog w) A (execs body env) (HopPost h₀ env.locals (J (i + 1)) I oI { s with heap := h, toks := tk } Q) E s₃) E { s with heap := h, toks := tk })
    (done : ∀ m nx h tk, Fr h₀ env.locals h m → News h₀ env.locals h nx → J n m nx → Q .next { s with heap := h, toks := tk }) :
    wpAny (model prog w) A (pyIter (.ref r)) (fun it s₂ => TurnsAt prog w A h₀ env (.Name x px) body Q E it s₂) E s := by
  refine wpAny_pyIter_range hr hsm ?_
  have push : ∀ o b o', s.heap.get? b = some o' → (s.heap.push o).get? b = some o' := fun _ _ _ e => Heap.get?_push_of_some _ e
  have W := KTurns.ofWalks (target := .Name x px) (range_walks (prog := prog) (w := w) (I := s.heap.objs.size) hh a n) fun i v s Q E st q => wpAny_of_eq (rfl : letOwnedTupleGo (.Name x px) (.ref _) v = pure ()) q
  have hI0 : h₀.get? s.heap.objs.size = none := next_is_new F
  refine ⟨_, _, _, n, _, _, _, m₀, news, J, rfl, W, ?_, ?_, ?_, (by show IsRangeIter _ _ _ _ _; rw [hn]; simpa using Heap.get?_push_size _ rfl), F.keeps (push _), N.grown (push _), h0, ?_, ?_⟩
  · intro hm
    exact absurd F.ns.lt ((List.mem_singleton.mp hm) ▸ Nat.lt_irrefl _)
  · intro b hb
    rw [List.mem_singleton.mp hb]; exact hI0
  · intro p hp hI
    exact absurd (Heap.lt_size (N p hp).1) ((List.mem_singleton.mp hI) ▸ Nat.lt_irrefl _)
  · rintro i v m₁ nx h₁ tk₁ own hi hP hJ hoff hown hget hfp hst F₁ N₁
    obtain ⟨t', rfl⟩ := hP
    have hoI : ∃ oI, h₁.get? s.heap.objs.size = some oI := ⟨_, hst⟩
    obtain ⟨oI, hoI⟩ := hoI
    have hoff' : ∀ p ∈ nx, p.1 ≠ s.heap.objs.size := fun p hp e => hoff p hp (List.mem_singleton.mpr e)
    have hIL : s.heap.objs.size ≠ env.locals := Ne.symm (Nat.ne_of_lt F.ns.lt)
    have N₂ : News h₀ env.locals h₁ ((s.heap.objs.size, oI) :: nx) := fun p hp => by
      rcases List.mem_cons.mp hp with rfl | hp
      · exact ⟨hoI, hIL, hI0⟩
      · exact N₁ p (List.mem_append_right _ hp)
    refine wpAny_mono (turn i t' m₁ nx s.heap.objs.size oI h₁ tk₁ hi hJ F₁ N₂ hoff') (fun _ s₃ q => wpAny_mono q (fun f s₂ p => ?_) fun _ _ e => e) fun _ _ e => e
    have fin : NextAt h₀ env.locals (J (i + 1)) s.heap.objs.size oI { s with heap := h₁, toks := tk₁ } s₂ →
        LoopStepU h₀ env.locals [s.heap.objs.size] own (J (i + 1)) { s with heap := h₁, toks := tk₁ } .next s₂ := by
      rintro hX9
      refine cps ?_
      intro C9 hC9
      obtain ⟨h', tk', m', nx', e, F', N', off', hJ'⟩ := hX9
      refine hC9 ?_
      clear hC9 C9
      refine ⟨rfl, h', tk', m', nx', e, F', fun p hp => ?_, fun p hp hq => off' p hp (List.mem_singleton.mp hq), hJ'⟩
      rcases List.mem_append.mp hp with h | h
      · have h1 : p.1 = s.heap.objs.size := List.mem_singleton.mp (hown p h)
        have h2 : h₁.get? p.1 = some p.2 := hget p h
        rw [h1, hoI] at h2
        have h3 : p = (s.heap.objs.size, oI) := Prod.ext h1 (Option.some.inj h2).symm
        rw [h3]
        exact N' _ (List.mem_cons_self ..)
      · exact N' p (List.mem_cons_of_mem _ h)
    cases f with
    | ret v => exact .ret p
    | brk => exact .brk p
    | next => exact .next (fin p)
    | cont => exact .cont (fin p)
  · rintro h' tk m' news' F' N' _ hJ
    exact done m' news' h' tk F' N' hJ
end
end Mine
end
section
open PySem PySem.W PyProof.Rows
namespace Mine
theorem fresh_PV : True := by
  k_with_none
  w_top off
  trivial
noncomputable def rowsN (runs : List Int) (h : Nat) : List Nat := runs.map (rowN h)
noncomputable def psF (runs : List Int) (h : Nat) : List (Int × Str) := wds (rowsN runs h) 1
theorem wds_append : ∀ (l r : List Nat) (k : Int), wds (l ++ r) k = wds l k ++ wds r (k + (l.length : Int))
  | [], r, k => by simp [wds]
  | n :: l, r, k => by
    simp only [List.cons_append, wds, List.length_cons]
    rw [wds_append l r (k + 1)]
    have e : k + 1 + (l.length : Int) = k + ((l.length + 1 : Nat) : Int) := by (first | lia | omega)
    rw [e]
    split <;> simp
theorem wordsP_eq {runs : List Int} (hb : ∀ r ∈ runs, 0 ≤ r) (h : Nat) : ∀ n, n ≤ runs.length → wordsP runs (h : Int) n = wds ((runs.take n).map (rowN h)) 1
  | 0, _ => by simp [wordsP, wds]
  | n + 1, hn => by
    have ih := wordsP_eq hb h n (by (first | lia | omega))
    have hlt : n < runs.length := by (first | lia | omega)
    have hr0 := hb _ (List.getElem_mem hlt)
    rw [wordsP, ih, List.take_add_one, List.getElem?_eq_getElem hlt, Option.toList_some, List.map_append, wds_append, List.getD_eq_getElem?_getD, List.getElem?_eq_getElem hlt, Option.getD_some]
    have el : ((List.map (rowN h) (List.take n runs)).length : Int) = (n : Int) := by simp; (first | lia | omega)
    rw [el]
    generalize runs[n] = r at hr0
    simp only [List.map_cons, List.map_nil, wds, rowN]
    by_cases hr : 0 < r
    · rw [if_pos hr, if_neg (by (first | lia | omega) : ¬ r.toNat = 0), if_neg (by (first | lia | omega) : ¬ r.toNat + h = 0), dots_mk]
      have e1 : (r + (h : Int)).toNat = r.toNat + h := by (first | lia | omega)
      rw [e1, Int.add_comm (n : Int) 1]
    · rw [if_neg hr, if_pos (by (first | lia | omega) : r.toNat = 0)]
      simp
theorem psF_words {runs : List Int} (hb : ∀ r ∈ runs, 0 ≤ r) (h : Nat) : psF runs h = wordsP runs (h : Int) runs.length := by
  rw [wordsP_eq hb h _ (Nat.le_refl _), List.take_length]; rfl
theorem wds_len : ∀ (l : List Nat) (k : Int), (wds l k).length ≤ l.length
  | [], k => by simp [wds]
  | n :: l, k => by
    have := wds_len l (k + 1)
    simp only [wds, List.length_cons]
    split
    · (first | lia | omega)
    · simp only [List.length_cons]; (first | lia | omega)
theorem wds_bound : ∀ (l : List Nat) (k : Int) (N : Nat), (∀ n ∈ l, n ≤ N) → ∀ p ∈ wds l k, k ≤ p.1 ∧ p.1 < k + (l.length : Int) ∧ p.2.length ≤ N
  | [], k, N, _, p, hp => by simp [wds] at hp
  | n :: l, k, N, h, p, hp => by
    have ih := wds_bound l (k + 1) N (fun n hn => h n (by simp [hn]))
    simp only [wds] at hp
    simp only [List.length_cons]
    split at hp
    · have := ih p hp; (first | lia | omega)
    · rcases List.mem_cons.mp hp with rfl | hp
      · have := h n (by simp)
        refine ⟨Int.le_refl _, by dsimp only; (first | lia | omega), ?_⟩
        simp [Str.length, dotsN]; exact this
      · have := ih p hp; (first | lia | omega)
/-- the lead's signs -/
noncomputable def leadT (ns : List Nat) : List Nat := ns.flatMap fun n => 9 :: List.replicate n 32
noncomputable def leadN : List Nat → List Nat
  | [] => []
  | n :: ns => List.replicate n 32 ++ leadT ns
noncomputable def leadI (runs : List Int) (h : Nat) : List Int := (leadN (rowsN runs h)).map (fun n : Nat => (n : Int))
theorem mul_tab (n : Int) : (Txt.mul (Str.ofString "\t") n).cps.toList = List.replicate n.toNat 9 := by rw [str_tab]; exact mul_one_list _ _
theorem mul_blank (n : Int) : (Txt.mul (Str.ofString " ") n).cps.toList = List.replicate n.toNat 32 := by rw [str_blank]; exact mul_one_list _ _
/-- the end of the lead -/
noncomputable def leadE (st : Str × Int) (ps : List (Int × Str)) (rows : Int) : List Nat :=
  (ps.foldl leadStep st).1.cps.toList ++ List.replicate (rows - (ps.foldl leadStep st).2).toNat 9
theorem lead_run : ∀ (ns : List Nat) (st : Str × Int) (k : Int), st.2 ≤ k → leadE st (wds ns k) (k + (ns.length : Int)) = st.1.cps.toList ++ List.replicate (k - st.2).toNat 9 ++ (ns.flatMap fun n => List.replicate n 32 ++ [9]) := by
  intro ns
  induction ns with
  | nil => intro st k hk; simp [leadE, wds]
  | cons n ns ih =>
    intro st k hk
    simp only [wds]
    by_cases hn : n = 0
    · subst hn
      rw [if_pos rfl]
      have e : k + (((0 :: ns).length : Nat) : Int) = k + 1 + (ns.length : Int) := by simp; (first | lia | omega)
      rw [e, ih st (k + 1) (by (first | lia | omega))]
      have e2 : (k + 1 - st.2).toNat = (k - st.2).toNat + 1 := by (first | lia | omega)
      rw [e2, List.replicate_succ']
      simp
    · rw [if_neg hn]
      have e : k + (((n :: ns).length : Nat) : Int) = k + 1 + (ns.length : Int) := by simp; (first | lia | omega)
      rw [e]
      have q : leadE st ((k, ⟨(dotsN n).toArray⟩) :: wds ns (k + 1)) (k + 1 + (ns.length : Int)) = leadE (leadStep st (k, ⟨(dotsN n).toArray⟩)) (wds ns (k + 1)) (k + 1 + (ns.length : Int)) := rfl
      rw [q, ih _ (k + 1) (by simp [leadStep]; (first | lia | omega))]
      have l1 : ((⟨(dotsN n).toArray⟩ : Str).length : Int) = (n : Int) := by simp [Str.length, dotsN]
      simp only [leadStep, l1]
      rw [Str.cps_append, Str.cps_append, Array.toList_append, Array.toList_append, mul_tab, mul_blank]
      have e3 : (k + 1 - k).toNat = 1 := by (first | lia | omega)
      rw [e3]
      simp
theorem lead_all (n : Nat) (ns : List Nat) : (leadF (wds (n :: ns) 1) (((n :: ns).length : Nat) : Int)).cps.toList = leadN (n :: ns) := by
  have h := lead_run (n :: ns) (Str.ofString "", 1) 1 (Int.le_refl _)
  have e : (leadF (wds (n :: ns) 1) (((n :: ns).length : Nat) : Int)).cps.toList ++ [9] = leadE (Str.ofString "", 1) (wds (n :: ns) 1) (1 + ((n :: ns).length : Int)) := by
    unfold leadF leadSt leadE
    rw [Str.cps_append, Array.toList_append, mul_tab, List.append_assoc]
    congr 1
    have hle : ∀ (l : List Nat) (st : Str × Int) (k : Int), st.2 ≤ k → ((wds l k).foldl leadStep st).2 ≤ max st.2 (k + (l.length : Int) - 1) := by
      intro l
      induction l with
      | nil => intro st k hk; simp [wds]; (first | lia | omega)
      | cons m l ih =>
        intro st k hk
        simp only [wds]
        split
        · have := ih st (k + 1) (by (first | lia | omega))
          simp only [List.length_cons]
          (first | lia | omega)
        · have := ih (leadStep st (k, ⟨(dotsN m).toArray⟩)) (k + 1) (by simp [leadStep]; (first | lia | omega))
          have e5 : (leadStep st (k, ⟨(dotsN m).toArray⟩)).2 = k := rfl
          rw [e5] at this
          simp only [List.foldl_cons, List.length_cons]
          (first | lia | omega)
    have := hle (n :: ns) (Str.ofString "", 1) 1 (Int.le_refl _)
    dsimp only at this
    simp only [List.length_cons] at this ⊢
    generalize ((wds (n :: ns) 1).foldl leadStep (Str.ofString "", 1)).2 = z at this ⊢
    have e2 : (1 + ((ns.length + 1 : Nat) : Int) - z).toNat = (((ns.length + 1 : Nat) : Int) - z).toNat + 1 := by (first | lia | omega)
    rw [e2, List.replicate_succ']
  rw [h] at e
  have s0 : (Str.ofString "").cps.toList = [] := by decide +kernel
  simp only [s0, Int.sub_self, Int.toNat_zero, List.replicate_zero, List.append_nil, List.nil_append] at e
  have key : ∀ (l : List Nat) (n : Nat), ((n :: l).flatMap fun n => List.replicate n 32 ++ [9]) = leadN (n :: l) ++ [9] := by
    intro l
    induction l with
    | nil => intro n; simp [leadN, leadT]
    | cons m l ih =>
      intro n
      rw [List.flatMap_cons, ih m]
      simp [leadN, leadT]
  rw [key] at e
  exact List.append_cancel_right e
end Mine
end
section
open PySem PySem.W PyProof.Rows
namespace Mine
theorem fresh_PW0 : True := by
  k_with_none
  w_top off
  trivial
noncomputable def addC (c : List Int) (b : Int) : List Int := (cntGrow c b).set b.toNat ((cntGrow c b).getD b.toNat 0 + 1)
noncomputable def cntF (l : List Nat) : List Int := l.foldl (fun (c : List Int) (n : Nat) => addC c (n : Int)) []
noncomputable def sumN (l : List Nat) : Int := (l.map fun n : Nat => (n : Int)).sum
theorem run_blanks (n : Nat) (st : IS) : (List.replicate n (32 : Int)).foldl initStep st = ⟨st.n + n, st.b + n, st.nt, st.cnt⟩ := by
  induction n generalizing st with
  | zero => simp
  | succ n ih =>
    rw [List.replicate_succ, List.foldl_cons, ih]
    simp only [initStep, if_true]
    congr 1 <;> (first | lia | omega)
theorem run_lead : ∀ (ns : List Nat) (n : Nat) (N nt : Int) (c : List Int), ((List.replicate n 32 ++ leadT ns).map fun n : Nat => (n : Int)).foldl initStep ⟨N, 0, nt, c⟩ =
    ⟨N + n + sumN ns + ns.length, (((n :: ns).getLast (by simp) : Nat) : Int), nt + ns.length, ((n :: ns).dropLast).foldl (fun (c : List Int) (n : Nat) => addC c (n : Int)) c⟩ := by
  intro ns
  induction ns with
  | nil =>
    intro n N nt c
    simp only [leadT, List.flatMap_nil, List.append_nil, List.map_replicate]
    have := run_blanks n ⟨N, 0, nt, c⟩
    simp only [Int.cast_ofNat_Int] at this ⊢
    rw [this]
    simp [sumN]
  | cons m ms ih =>
    intro n N nt c
    have e : leadT (m :: ms) = 9 :: (List.replicate m 32 ++ leadT ms) := by simp [leadT]
    rw [e, List.map_append, List.foldl_append, List.map_cons, List.foldl_cons]
    have h1 : (List.map (fun n : Nat => (n : Int)) (List.replicate n 32)).foldl initStep ⟨N, 0, nt, c⟩ = ⟨N + n, n, nt, c⟩ := by
      rw [List.map_replicate]
      have := run_blanks n ⟨N, 0, nt, c⟩
      simp only [Int.cast_ofNat_Int] at this ⊢
      rw [this]; simp
    have h2 : initStep ⟨N + n, n, nt, c⟩ ((9 : Nat) : Int) = ⟨N + n + 1, 0, nt + 1, addC c n⟩ := by
      unfold initStep
      rw [if_neg (by decide)]
      rfl
    rw [h1, h2, ih]
    have e3 : (n :: m :: ms).dropLast = n :: (m :: ms).dropLast := rfl
    have e4 : (n :: m :: ms).getLast (by simp) = (m :: ms).getLast (by simp) := rfl
    rw [e3, e4, List.foldl_cons]
    simp only [sumN, List.map_cons, List.sum_cons, List.length_cons]
    congr 1 <;> (first | lia | omega)
theorem init_lead {ns : List Nat} (hn : ns ≠ []) : initF ((leadN ns).map fun n : Nat => (n : Int)) = ⟨sumN ns + ns.length - 1, ((ns.getLast hn : Nat) : Int), ns.length - 1, cntF ns.dropLast⟩ := by
  obtain ⟨n, r, rfl⟩ := List.exists_cons_of_ne_nil hn
  have := run_lead r n 0 0 []
  unfold initF leadN
  rw [this]
  simp only [sumN, List.map_cons, List.sum_cons, List.length_cons, cntF]
  congr 1 <;> (first | lia | omega)
theorem cntGrow_len (c : List Int) (n : Nat) : (cntGrow c (n : Int)).length = max c.length (n + 1) := by
  unfold cntGrow
  split
  · rw [List.length_append, List.length_replicate]; (first | lia | omega)
  · (first | lia | omega)
theorem addC_len (c : List Int) (n : Nat) : (addC c (n : Int)).length = max c.length (n + 1) := by
  unfold addC; rw [List.length_set, cntGrow_len]
theorem cnt_len (l : List Nat) (c : List Int) : (l.foldl (fun (c : List Int) (n : Nat) => addC c (n : Int)) c).length = l.foldl (fun m n => max m (n + 1)) c.length := by
  induction l generalizing c with
  | nil => rfl
  | cons n l ih => rw [List.foldl_cons, ih, addC_len, List.foldl_cons]
theorem foldmax_le {l : List Nat} {m N : Nat} : l.foldl (fun m n => max m (n + 1)) m ≤ N ↔ m ≤ N ∧ ∀ n ∈ l, n + 1 ≤ N := by
  induction l generalizing m with
  | nil => simp
  | cons n l ih =>
    rw [List.foldl_cons, ih]
    simp only [List.forall_mem_cons]
    constructor
    · rintro ⟨a, b⟩; exact ⟨by (first | lia | omega), by (first | lia | omega), b⟩
    · rintro ⟨a, b, c⟩; exact ⟨by (first | lia | omega), c⟩
theorem cntF_le {l : List Nat} {N : Nat} : (cntF l).length ≤ N ↔ ∀ n ∈ l, n + 1 ≤ N := by
  unfold cntF
  rw [cnt_len, foldmax_le]
  simp
/-- the sum of a list of counts -/
noncomputable def tsum (ts : Nat) : Nat → List Int → Int
  | _, [] => 0
  | k, c :: cs => ((k / ts : Nat) : Int) * c + tsum ts (k + 1) cs
theorem tsum_app (ts : Nat) : ∀ (l r : List Int) (k : Nat), tsum ts k (l ++ r) = tsum ts k l + tsum ts (k + l.length) r
  | [], r, k => by simp [tsum]
  | c :: l, r, k => by
    simp only [List.cons_append, tsum, List.length_cons]
    rw [tsum_app ts l r (k + 1), show k + 1 + l.length = k + (l.length + 1) from by (first | lia | omega)]
    (first | lia | omega)
theorem tsum_zero (ts : Nat) : ∀ (m k : Nat), tsum ts k (List.replicate m 0) = 0
  | 0, k => rfl
  | m + 1, k => by rw [List.replicate_succ, tsum, tsum_zero ts m (k + 1)]; simp
theorem tsum_set (ts : Nat) : ∀ (l : List Int) (j k : Nat), j < l.length → tsum ts k (l.set j (l.getD j 0 + 1)) = tsum ts k l + (((k + j) / ts : Nat) : Int)
  | [], j, k, h => by simp at h
  | c :: l, 0, k, h => by
    simp only [List.set_cons_zero, tsum, List.getD_cons_zero, Nat.add_zero]
    rw [Int.mul_add]; (first | lia | omega)
  | c :: l, j + 1, k, h => by
    simp only [List.set_cons_succ, tsum, List.getD_cons_succ]
    rw [tsum_set ts l j (k + 1) (by simpa using h), show k + 1 + j = k + (j + 1) from by (first | lia | omega)]
    (first | lia | omega)
theorem tsum_add (ts : Nat) (c : List Int) (n : Nat) : tsum ts 0 (addC c (n : Int)) = tsum ts 0 c + ((n / ts : Nat) : Int) := by
  unfold addC
  have hl := cntGrow_len c n
  have e : ((n : Int)).toNat = n := by (first | lia | omega)
  rw [e, tsum_set ts _ _ _ (by (first | lia | omega)), Nat.zero_add]
  congr 1
  unfold cntGrow
  split
  · rw [tsum_app, tsum_zero]; simp
  · rfl
noncomputable def divs (ts : Nat) (l : List Nat) : Int := (l.map fun n => ((n / ts : Nat) : Int)).sum
theorem tsum_cnt (ts : Nat) (l : List Nat) : tsum ts 0 (cntF l) = divs ts l := by
  have key : ∀ (l : List Nat) (c : List Int), tsum ts 0 (l.foldl (fun (c : List Int) (n : Nat) => addC c (n : Int)) c) = tsum ts 0 c + divs ts l := by
    intro l
    induction l with
    | nil => intro c; simp [divs]
    | cons n l ih =>
      intro c
      rw [List.foldl_cons, ih, tsum_add]
      simp only [divs, List.map_cons, List.sum_cons]
      (first | lia | omega)
  unfold cntF
  rw [key]; simp [tsum]
theorem tsum_low (ts : Nat) : ∀ (l : List Int) (k : Nat), k + l.length ≤ ts → tsum ts k l = 0
  | [], k, h => rfl
  | c :: l, k, h => by
    simp only [List.length_cons] at h
    rw [tsum, tsum_low ts l (k + 1) (by (first | lia | omega)), Nat.div_eq_of_lt (by (first | lia | omega))]; simp
theorem il_range (ts : Nat) (cnt : List Int) : ∀ (n a : Nat), a + n ≤ cnt.length → ilF (ts : Int) cnt (rangeKs (a : Int) n) = tsum ts a ((cnt.drop a).take n) := by
  intro n
  induction n with
  | zero => intro a _; simp [ilF, rangeKs, tsum]
  | succ n ih =>
    intro a h
    have e1 : rangeKs (a : Int) (n + 1) = rangeKs (a : Int) n ++ [((a + n : Nat) : Int)] := by
      simp only [rangeKs, List.range_succ, List.map_append, List.map_cons, List.map_nil, Int.natCast_add]
    rw [e1, ilF_snoc, ih a (by (first | lia | omega))]
    have hlt : n < (cnt.drop a).length := by rw [List.length_drop]; (first | lia | omega)
    rw [List.take_add_one, List.getElem?_eq_getElem hlt, Option.toList_some, tsum_app]
    have e2 : (List.take n (cnt.drop a)).length = n := by rw [List.length_take]; (first | lia | omega)
    rw [e2]
    simp only [tsum, Int.add_zero]
    congr 1
    have e3 : (((a + n : Nat) : Int)).toNat = a + n := by (first | lia | omega)
    rw [e3, List.getD_eq_getElem?_getD, List.getElem?_eq_getElem (by (first | lia | omega)), Option.getD_some, List.getElem_drop]
    congr 1
    exact (Int.ofNat_fdiv _ _).symm
theorem ind_eq (l : List Nat) (b nt : Int) (ts : Nat) (h1 : 1 ≤ ts) : indF (cntF l) b nt (ts : Int) = b + ts * (divs ts l + nt) := by
  unfold indF
  congr 2
  congr 1
  rw [← tsum_cnt]
  by_cases h : ts ≤ (cntF l).length
  · have e : (((cntF l).length : Int) - (ts : Int)).toNat = (cntF l).length - ts := by (first | lia | omega)
    rw [e, il_range ts _ _ ts (by (first | lia | omega))]
    have e2 : List.take ((cntF l).length - ts) (List.drop ts (cntF l)) = List.drop ts (cntF l) := List.take_of_length_le (by rw [List.length_drop]; exact Nat.le_refl _)
    rw [e2]
    conv => rhs; rw [← List.take_append_drop ts (cntF l), tsum_app]
    rw [tsum_low ts _ 0 (by rw [List.length_take]; (first | lia | omega)), List.length_take, Nat.min_eq_left h]
    simp
  · have e : (((cntF l).length : Int) - (ts : Int)).toNat = 0 := by (first | lia | omega)
    rw [e, tsum_low ts _ 0 (by (first | lia | omega))]
    simp [ilF, rangeKs]
theorem lens_wds : ∀ (l : List Nat) (k : Int), lens (wds l k) = (l.filter fun n => n != 0).map fun n : Nat => (n : Int)
  | [], k => rfl
  | n :: l, k => by
    have ih := lens_wds l (k + 1)
    simp only [wds]
    split
    · rename_i h; subst h; rw [ih]; simp
    · rename_i h
      have e : lens ((k, ⟨(dotsN n).toArray⟩) :: wds l (k + 1)) = (n : Int) :: lens (wds l (k + 1)) := by simp [lens, Str.length, dotsN]
      rw [e, ih, List.filter_cons_of_pos (by simpa using h)]
      rfl
theorem sum_filter : ∀ l : List Nat, (((l.filter fun n => n != 0).map fun n : Nat => (n : Int)).sum) = sumN l
  | [] => rfl
  | n :: l => by
    have ih := sum_filter l
    by_cases h : n = 0
    · subst h; simp only [sumN, List.map_cons, List.sum_cons] at ih ⊢; simp [ih]
    · rw [List.filter_cons_of_pos (by simpa using h)]
      simp only [sumN, List.map_cons, List.sum_cons] at ih ⊢
      rw [ih]
theorem ended_wds {l : List Nat} (hl : l ≠ []) : endedF (l.length : Int) (wds l 1) = (l.dropLast.filter fun n => n != 0).map fun n : Nat => (n : Int) := by
  have e : l = l.dropLast ++ [l.getLast hl] := (List.dropLast_concat_getLast hl).symm
  have hlen : l.length = l.dropLast.length + 1 := by rw [List.length_dropLast]; have := List.length_pos_iff.mpr hl; (first | lia | omega)
  generalize l.getLast hl = x at e
  generalize l.dropLast = d at e hlen
  rw [hlen, e, wds_append]
  unfold endedF
  rw [List.filter_append]
  have h1 : List.filter (fun q : Int × Str => decide (q.1 < ((d.length + 1 : Nat) : Int))) (wds d 1) = wds d 1 := by
    rw [List.filter_eq_self]
    intro p hp
    have := wds_bound d 1 (d.foldl max 0) (by
      have key : ∀ (l : List Nat) (m : Nat), (∀ n ∈ l, n ≤ l.foldl max m) ∧ m ≤ l.foldl max m := by
        intro l
        induction l with
        | nil => intro m; simp
        | cons a l ih =>
          intro m
          have := ih (max m a)
          simp only [List.foldl_cons, List.forall_mem_cons]
          exact ⟨⟨by (first | lia | omega), this.1⟩, by (first | lia | omega)⟩
      exact (key d 0).1) p hp
    simp; (first | lia | omega)
  have h2 : List.filter (fun q : Int × Str => decide (q.1 < ((d.length + 1 : Nat) : Int))) (wds [x] (1 + (d.length : Int))) = [] := by
    rw [List.filter_eq_nil_iff]
    intro p hp
    simp only [wds] at hp
    split at hp
    · simp at hp
    · have : p = (1 + (d.length : Int), ⟨(dotsN x).toArray⟩) := by simpa using hp
      subst this
      simp; (first | lia | omega)
  rw [h1, h2, List.append_nil, lens_wds]
end Mine
end
section
open PySem PySem.W PyProof.Rows
namespace Mine
theorem fresh_PX1 : True := by
  k_with_none
  w_top off
  trivial
structure RunsOk (runs : List Int) : Prop where
  ne : runs ≠ []
  len : runs.length ≤ 4
  bd : ∀ r ∈ runs, 0 ≤ r ∧ r ≤ 4
section
variable {runs : List Int} {h : Nat}
theorem rowsN_len : (rowsN runs h).length = runs.length := by simp [rowsN]
theorem rowsN_ne (o : RunsOk runs) : rowsN runs h ≠ [] := by
  intro e
  have := congrArg List.length e
  rw [rowsN_len] at this
  exact o.ne (List.length_eq_zero_iff.mp this)
theorem rowsN_le (o : RunsOk runs) (hh : h ≤ 3) : ∀ n ∈ rowsN runs h, n ≤ 7 := by
  intro n hn
  obtain ⟨r, hr, rfl⟩ := List.mem_map.mp hn
  have := o.bd r hr
  unfold rowN; split <;> (first | lia | omega)
theorem psF_len (o : RunsOk runs) : (psF runs h).length ≤ 4 := by
  have := wds_len (rowsN runs h) 1
  rw [rowsN_len] at this
  have := o.len
  unfold psF; (first | lia | omega)
theorem psF_bound (o : RunsOk runs) (hh : h ≤ 3) : ∀ p ∈ psF runs h, 0 ≤ p.1 ∧ p.1 ≤ 100 ∧ p.2.length ≤ 100 := by
  intro p hp
  have := wds_bound (rowsN runs h) 1 7 (rowsN_le o hh) p hp
  rw [rowsN_len] at this
  have := o.len
  (first | lia | omega)
theorem psF_mail (o : RunsOk runs) : wordsX (mailT runs h) = (psF runs h, (runs.length : Int)) := mail_words o.ne h
theorem psF_wordsP (o : RunsOk runs) : psF runs h = wordsP runs (h : Int) runs.length := psF_words (fun r hr => (o.bd r hr).1) h
theorem leadF_list (o : RunsOk runs) : (leadF (psF runs h) (runs.length : Int)).cps.toList = leadN (rowsN runs h) := by
  obtain ⟨n, r, e⟩ := List.exists_cons_of_ne_nil (rowsN_ne (h := h) o)
  have := lead_all n r
  rw [← e, rowsN_len] at this
  exact this
theorem codes_list (x : Str) : KStt.codes x = x.cps.toList.map (fun n : Nat => (n : Int)) := rfl
theorem lead_codes (o : RunsOk runs) : KStt.codes (leadF (psF runs h) (runs.length : Int) ++ Str.ofString "x ") = leadI runs h ++ [120, 32] := by
  rw [codes_list, Str.cps_append, Array.toList_append, leadF_list o, List.map_append]
  have e : (Str.ofString "x ").cps.toList = [120, 32] := by decide +kernel
  rw [e]; rfl
theorem leadT_mem : ∀ {l : List Nat} {c : Nat}, c ∈ leadT l → c = 32 ∨ c = 9 := by
  intro l c hc
  unfold leadT at hc
  obtain ⟨n, _, hc⟩ := List.mem_flatMap.mp hc
  rcases List.mem_cons.mp hc with rfl | hc
  · exact .inr rfl
  · exact .inl (List.mem_replicate.mp hc).2
theorem leadI_mem : ∀ c ∈ leadI runs h, c = 32 ∨ c = 9 := by
  intro c hc
  obtain ⟨n, hn, rfl⟩ := List.mem_map.mp hc
  have : n = 32 ∨ n = 9 := by
    cases hr : rowsN runs h with
    | nil => rw [hr] at hn; simp [leadN] at hn
    | cons a r =>
      rw [hr] at hn
      rcases List.mem_append.mp hn with hn | hn
      · exact .inl (List.mem_replicate.mp hn).2
      · exact leadT_mem hn
  (first | lia | omega)
theorem leadF_len (o : RunsOk runs) (hh : h ≤ 3) : (leadF (psF runs h) (runs.length : Int)).length ≤ 90 := by
  have e : (leadF (psF runs h) (runs.length : Int)).length = (leadN (rowsN runs h)).length := by rw [← leadF_list o]; simp [Str.length]
  rw [e]
  have key : ∀ l : List Nat, (∀ n ∈ l, n ≤ 7) → (leadT l).length ≤ 8 * l.length := by
    intro l
    induction l with
    | nil => intro _; simp [leadT]
    | cons n l ih =>
      intro hl
      have h1 := ih fun n hn => hl n (by simp [hn])
      have h2 := hl n (by simp)
      have e : leadT (n :: l) = 9 :: (List.replicate n 32 ++ leadT l) := by simp [leadT]
      rw [e]
      simp only [List.length_cons, List.length_append, List.length_replicate]
      (first | lia | omega)
  have h7 := rowsN_le o hh
  have hl := o.len
  rw [← rowsN_len (h := h)] at hl
  cases hr : rowsN runs h with
  | nil => simp [leadN]
  | cons a r =>
    rw [hr] at h7 hl
    have h1 := key r fun n hn => h7 n (by simp [hn])
    have h2 := h7 a (by simp)
    simp only [leadN, List.length_append, List.length_replicate]
    simp only [List.length_cons] at hl
    (first | lia | omega)
noncomputable def lastN (runs : List Int) (h : Nat) : Nat := (rowsN runs h).getLastD 0
noncomputable def endN (runs : List Int) (h : Nat) : List Nat := (rowsN runs h).dropLast
theorem init_of (o : RunsOk runs) : initF (leadI runs h) = ⟨(lens (psF runs h)).sum + (runs.length : Int) - 1, (lastN runs h : Int), (runs.length : Int) - 1, cntF (endN runs h)⟩ := by
  have hne := rowsN_ne (h := h) o
  unfold leadI
  rw [init_lead hne]
  have e1 : (lens (psF runs h)).sum = sumN (rowsN runs h) := by unfold psF; rw [lens_wds, sum_filter]
  have e2 : (lastN runs h : Int) = (((rowsN runs h).getLast hne : Nat) : Int) := by
    unfold lastN
    generalize rowsN runs h = l at hne
    cases l with
    | nil => exact absurd rfl hne
    | cons a r => rw [List.getLastD_eq_getLast?, List.getLast?_cons]; simp [List.getLast_eq_getLastD]
  rw [e1, e2, rowsN_len]; rfl
noncomputable def endedI (runs : List Int) (h : Nat) : List Int := ((endN runs h).filter fun n => n != 0).map fun n : Nat => (n : Int)
theorem ended_of (o : RunsOk runs) : endedF (runs.length : Int) (psF runs h) = endedI runs h := by
  have := ended_wds (rowsN_ne (h := h) o)
  rw [rowsN_len] at this
  exact this
theorem ended_len (o : RunsOk runs) : (endedI runs h).length ≤ 4 := by
  unfold endedI endN
  rw [List.length_map]
  refine Nat.le_trans (List.length_filter_le _ _) ?_
  rw [List.length_dropLast, rowsN_len]
  have := o.len
  (first | lia | omega)
theorem simple_of : decide ((cntF (endN runs h)).length ≤ 1) = decide (endedI runs h = []) := by
  refine decide_eq_decide.mpr ?_
  rw [cntF_le]
  unfold endedI
  rw [List.map_eq_nil_iff, List.filter_eq_nil_iff]
  constructor
  · intro q n hn; have := q n hn; simp; (first | lia | omega)
  · intro q n hn; have := q n hn; simp at this; (first | lia | omega)
end
end Mine
end
section
open PySem PySem.W PyProof.Rows
namespace Mine
theorem fresh_L10 : True := by
  k_with_none
  w_top off
  trivial
noncomputable def metF (runs : List Int) : Nat → List Int
  | 0 => []
  | i + 1 => if 0 < (i : Int) then metF runs i ++ endedI runs i else metF runs i
theorem metF_len {runs : List Int} (o : RunsOk runs) : ∀ i, (metF runs i).length ≤ 4 * i
  | 0 => Nat.le_refl _
  | i + 1 => by
    have ih := metF_len o i
    have he := ended_len (h := i) o
    rw [metF]
    split
    · rw [List.length_append]; omega
    · omega
structure PageOk (runs : List Int) (W : WsT) (h : Nat) : Prop where
  vs : IntsAre W.vs (cntF (endN runs h))
  n : W.n = (lens (psF runs h)).sum + (runs.length : Int) - 1
  b : W.b = (lastN runs h : Int)
  nt : W.nt = (runs.length : Int) - 1
  s : W.simple = decide (endedI runs h = [])
theorem hopMid (w : World) (mean : ExcName → Option Value) (mg mb : Str → Option Value) (h₀ : Heap) (L fa : Nat) (cd : Value) (m : Str → Option Value) (s : Shared) (Q : Flow → Shared → Prop) (Ea Eb : Value → Shared → Prop)
    (wl rl ml pl k kk mk pk i : Nat) (us rus mus pus : List Value) (runs : List Int) (th tr : Tok) (oZ oR oH oN : Obj) (T : List (Addr × Obj))
    (hB : Below callerA h₀ [] h₀) (hK : (hd.heap_39 w.params).In h₀) (hT : Top topProg LooseL mean mg mb h₀) (hch : CodeHd h₀ 176 172)
    (hF : Fr h₀ L s.heap m) (hm : m (Str.ofString "words") = some (.ref wl)) (hm2 : m (Str.ofString "met") = some (.ref ml)) (hm3 : m (Str.ofString "pages") = some (.ref pl))
    (hN : News h₀ L s.heap ((L + 1 + 1 + 1 + 1, oZ) :: (L + 1 + 1 + 1, oR) :: (L + 1 + 1, oH) :: (L + 1, oN) :: (wl, listOf us.toArray kk) :: (rl, listOf rus.toArray k) :: (ml, listOf mus.toArray mk) :: (pl, listOf pus.toArray pk) :: T))
    (hR : oR.data = .cell (some (.int (runs.length : Int) tr))) (hH : oH.data = .cell (some (.int (i : Int) th))) (hNn : oN.data = .cell (some (.ref rl)))
    (o : RunsOk runs) (hi : i ≤ 3) (hI : IntsAre rus runs) (hIm : IntsAre mus (metF runs i)) (hD : DatAll T us ((psF runs i).map wordD)) (hpl : pus.length ≤ 10)
    (hO : OwnOff T [pl]) (hpa : pl ≠ wl ∧ pl ≠ rl ∧ pl ≠ ml ∧ pl ≠ L + 1 + 1 + 1 + 1 ∧ pl ≠ L + 1 + 1 + 1 ∧ pl ≠ L + 1 + 1 ∧ pl ≠ L + 1)
    (hc : ∀ (W : WsT) (el ml' mk' : Nat) (eus mus' : List Value) (M' : Str → Option Value) (h' : Heap) (tk' : Nat),
      Fr h₀ L h' M' → M' (Str.ofString "met") = some (.ref ml') → (∀ y, y ≠ Str.ofString "ended" → y ≠ Str.ofString "met" → y ≠ Str.ofString "page" → M' y = m y) →
      News h₀ L h' ((pl, listOf (pus ++ [Value.ref W.x]).toArray (pk + 1)) :: (W.objs w.params ++ (L + 1 + 1 + 1 + 1, oZ) :: (L + 1 + 1 + 1, oR) :: (L + 1 + 1, oH) :: (L + 1, oN) :: (wl, listOf us.toArray kk) :: (ml', listOf mus'.toArray mk') :: (el, listOf eus.toArray eus.length) :: (rl, listOf rus.toArray k) :: T)) →
      IntsAre mus' (metF runs (i + 1)) → PageOk runs W i →
      (∀ p ∈ W.objs w.params, AllLt p.1 ((L + 1 + 1 + 1 + 1, oZ) :: (L + 1 + 1 + 1, oR) :: (L + 1 + 1, oH) :: (L + 1, oN) :: (wl, listOf us.toArray kk) :: (ml', listOf mus'.toArray mk') :: (el, listOf eus.toArray eus.length) :: (rl, listOf rus.toArray k) :: (pl, listOf pus.toArray pk) :: T)) →
      (∀ p ∈ (L + 1 + 1 + 1 + 1, oZ) :: (L + 1 + 1 + 1, oR) :: (L + 1 + 1, oH) :: (L + 1, oN) :: (wl, listOf us.toArray kk) :: (ml, listOf mus.toArray mk) :: (rl, listOf rus.toArray k) :: (pl, listOf pus.toArray pk) :: T, p.1 ≠ el) →
      (ml' = ml ∨ ∀ p ∈ (el, listOf eus.toArray eus.length) :: (L + 1 + 1 + 1 + 1, oZ) :: (L + 1 + 1 + 1, oR) :: (L + 1 + 1, oH) :: (L + 1, oN) :: (wl, listOf us.toArray kk) :: (ml, listOf mus.toArray mk) :: (rl, listOf rus.toArray k) :: (pl, listOf pus.toArray pk) :: T, p.1 < ml') →
      Q .next { s with heap := h', toks := tk' }) :
    wpAny (model Challenge.rw_pe0179_01.row.prog w) (lawA L fa cd) (execs (hopBody.drop 2) (lawEnv L fa cd)) Q (fun e s1 => lawE w L fa cd Ea Eb e s1) s := by
  have hlen := o.len
  refine cutE (show hopBody.drop 2 = (hopBody.drop 2).take 1 ++ hopBody.drop 3 from rfl) ?_
  refine hop2 (rest := hopBody.drop 3) (runs := runs) (ps := psF runs i) (j := (i : Int)) (rows := (runs.length : Int)) (T := (ml, listOf mus.toArray mk) :: (pl, listOf pus.toArray pk) :: T) w mean mg mb h₀ L fa cd m s Q Ea Eb wl rl k kk us rus th tr oZ oR oH oN hB hK hT hch hF hm hN hR hH hNn hI o.len o.bd ⟨by omega, by omega⟩ (hD.mono (fun p hp => by simp [hp])) (psF_wordsP o) rfl ?_
  intro h1 tk1 F1 N1
  refine cutE (show hopBody.drop 3 = (hopBody.drop 3).take 2 ++ hopBody.drop 5 from rfl) ?_
  refine hop3 (rest := hopBody.drop 5) (ps := psF runs i) (met := metF runs i) (j := (i : Int)) (rows := (runs.length : Int)) (T := (rl, listOf rus.toArray k) :: (pl, listOf pus.toArray pk) :: T) w mean mg mb h₀ L fa cd m _ Q Ea Eb wl ml kk mk us mus th tr oZ oR oH oN hB hK hT hch F1 hm hm2 ?_ hR hH hIm ?_ (by omega) (hD.mono (fun p hp => by simp [hp])) (psF_len o) (fun p hp => Nat.le_trans (psF_bound o hi p hp).2.2 (by decide)) ?_
  · refine sub_news N1 ?_
    walk_at "sub"
  · have := metF_len o i; omega
  intro el ml' mk' eus mus' M1 h2 tk2 F2 e1 e2 e3 N2 hIe hIm' hoe hml
  rw [ended_of o] at hIe hIm'
  have hm' : M1 (Str.ofString "words") = some (.ref wl) := (e3 _ (by decide +kernel) (by decide +kernel)).trans (hm)
  have hini := init_of (h := i) o
  refine cutE (show hopBody.drop 5 = (hopBody.drop 5).take 1 ++ hopBody.drop 6 from rfl) ?_
  refine hop5 (rest := hopBody.drop 6) (ps := psF runs i) (rows := (runs.length : Int)) (lead := leadI runs i) (T := (ml', listOf mus'.toArray mk') :: (el, listOf eus.toArray eus.length) :: (rl, listOf rus.toArray k) :: (pl, listOf pus.toArray pk) :: T) w mean mg mb h₀ L fa cd M1 _ Q Ea Eb wl kk us tr oZ oR oH oN hB hK hT hch F2 hm' N2 hR (hD.mono (fun p hp => by simp [hp])) (psF_len o) (psF_bound o hi) ⟨by omega, by omega⟩ (leadF_len o hi) (lead_codes o) leadI_mem ?_
  intro W M2 h3 tk3 F3 g1 g2 N3 w1 w2 w3 w4 w5 hWa
  rw [hini] at w1 w2 w3 w4 w5
  dsimp only at w1 w2 w3 w4 w5
  have hs : W.simple = decide (endedI runs i = []) := by rw [w5, simple_of]
  refine cutE (show hopBody.drop 6 = (hopBody.drop 6).take 1 ++ hopBody.drop 7 from rfl) ?_
  refine hop6 (rest := hopBody.drop 7) (ps := psF runs i) (rows := (runs.length : Int)) (ended := endedI runs i) (W := W) (T := (ml', listOf mus'.toArray mk') :: (rl, listOf rus.toArray k) :: (pl, listOf pus.toArray pk) :: T) w mean mg mb h₀ L fa cd M2 _ Q Ea Eb wl el kk eus.length us eus tr oZ oR oH oN hB hK hT hch F3 ((g2 _ (by decide +kernel)).trans hm') g1 ((g2 _ (by decide +kernel)).trans (e1)) ?_ hR hIe (ended_len o) (hD.mono (fun p hp => by simp [hp])) (psF_len o) (fun p hp => Nat.le_trans (psF_bound o hi p hp).2.2 (by decide)) ⟨by omega, by omega⟩ w2 w4 hs ?_
  · refine sub_news N3 ?_
    walk_at "sub"
  intro h4 tk4 F4 N4
  refine cutE (show hopBody.drop 7 = (hopBody.drop 7).take 1 ++ [] from rfl) ?_
  refine hop7 (rest := []) w mean mg mb h₀ L fa cd M2 _ Q Ea Eb pl pk W.x pus (W.objs w.params ++ (L + 1 + 1 + 1 + 1, oZ) :: (L + 1 + 1 + 1, oR) :: (L + 1 + 1, oH) :: (L + 1, oN) :: (wl, listOf us.toArray kk) :: (ml', listOf mus'.toArray mk') :: (el, listOf eus.toArray eus.length) :: (rl, listOf rus.toArray k) :: T) hB hK hT hch F4 ?_ g1 ?_ hpl ?_ ?_
  · exact (g2 _ (by decide +kernel)).trans ((e3 _ (by decide +kernel) (by decide +kernel)).trans (hm3))
  · refine sub_news N4 ?_
    walk_at "sub"
  · intro p hp q hq
    rw [List.mem_singleton.mp hq]
    rcases List.mem_append.mp hp with hp | hp
    · exact Nat.ne_of_gt (tb_ltOf (hWa p hp) (pl, listOf pus.toArray pk) (by first | walk_at "subm" | simp))
    · simp only [List.mem_cons] at hp
      obtain ⟨c1, c2, c3, c4, c5, c6, c7⟩ := hpa
      rcases hp with rfl | rfl | rfl | rfl | rfl | rfl | rfl | rfl | hp
      · exact Ne.symm c4
      · exact Ne.symm c5
      · exact Ne.symm c6
      · exact Ne.symm c7
      · exact Ne.symm c1
      · rcases hml with rfl | hml
        · exact Ne.symm c3
        · exact Nat.ne_of_gt (hml (pl, listOf pus.toArray pk) (by first | walk_at "subm" | simp))
      · exact Ne.symm (hoe (pl, listOf pus.toArray pk) (by first | walk_at "subm" | simp))
      · exact Ne.symm c2
      · exact hO p hp pl (by first | walk_at "subm" | simp)
  intro h5 tk5 F5 N5
  refine wpAny_execs_nil ?_
  refine hc W el ml' mk' eus mus' M2 h5 _ F5 ?_ ?_ N5 hIm' ⟨w1, w2, w3, w4, hs⟩ ?_ ?_ ?_
  · exact (g2 _ (by decide +kernel)).trans (e2)
  · intro y y1 y2 y3
    rw [g2 y y3, e3 y y1 y2]
  · exact hWa
  · intro p hp
    refine hoe p ?_
    refine sbAt ?_ hp
    walk_at "sub"
  · rcases hml with hml | hml
    · exact .inl hml
    · refine .inr fun p hp => hml p ?_
      refine sbAt ?_ hp
      walk_at "sub"
end Mine
end
section
open PySem PySem.W PyProof.Rows
namespace Mine
theorem fresh_L11 : True := by
  k_with_none
  w_top off
  trivial
theorem hopA (w : World) (mean : ExcName → Option Value) (mg mb : Str → Option Value) (h₀ : Heap) (L fa : Nat) (cd : Value) (m : Str → Option Value) (s : Shared) (Q : Unit → Shared → Prop) (E : Value → Shared → Prop) (px : Pos)
    (v : Value) (oZ oR oH oN : Obj) (cH : Option Value) (T : List (Addr × Obj))
    (hB : Below callerA h₀ [] h₀) (hK : (hd.heap_39 w.params).In h₀) (hT : Top topProg LooseL mean mg mb h₀) (hch : CodeHd h₀ 176 172)
    (hF : Fr h₀ L s.heap m)
    (hN : News h₀ L s.heap ((L + 1 + 1 + 1 + 1, oZ) :: (L + 1 + 1 + 1, oR) :: (L + 1 + 1, oH) :: (L + 1, oN) :: T)) (hH : oH.data = .cell cH) (hO : OwnOff T [L + 1 + 1 + 1 + 1, L + 1 + 1 + 1, L + 1 + 1, L + 1])
    (hc : ∀ (oH' : Obj) (h' : Heap) (tk' : Nat), Fr h₀ L h' m → oH'.data = .cell (some v) →
      News h₀ L h' ((L + 1 + 1 + 1 + 1, oZ) :: (L + 1 + 1 + 1, oR) :: (L + 1 + 1, oH') :: (L + 1, oN) :: T) → Q () { s with heap := h', toks := tk' }) :
    wpAny (model Challenge.rw_pe0179_01.row.prog w) (lawA L fa cd) (assign (.Name (Str.ofString "hop") px) (lawEnv L fa cd) v) Q E s := by
  revert hK
  k_fill
  intro hK
  k_with_none
  have kdm := kdMark
  dsimp only [lawDef, defOf, lawEnv, lawA]
  all_goals (try k_fold)
  k_steps
  exact hc _ _ _ (by assumption) (by assumption) (by assumption)
end Mine
end
section
open PySem PySem.W PyProof.Rows
namespace Mine
theorem fresh_L12 : True := by
  k_with_none
  w_top off
  trivial
noncomputable def TabInv (Tr : List (Addr × Obj)) : Nat → Prop
  | 0 => ∃ Tr0, Tr = (172, tabObj #[]) :: Tr0 ∧ ∀ p ∈ Tr0, p.1 ≠ 172
  | _ + 1 => ∃ (cR : Nat) (oCR : Obj) (cL : Nat) (oCL : Obj), TabOk oCR oCL ∧ ∀ p ∈ [(172, tabObj (tabOf cR cL)), (cR, oCR), (cL, oCL)], p ∈ Tr
noncomputable def HopInv (P : Params) (L pl rl k : Nat) (rus : List Value) (oZ oN : Obj) (runs : List Int) (sv : Option Value) (i : Nat) (m : Str → Option Value) (nx : List (Addr × Obj)) : Prop :=
  ∃ (pk ml mk : Nat) (mus : List Value) (Ws : List WsT) (oR oH : Obj) (cR cH : Option Value) (tm : Tok) (Tr : List (Addr × Obj)),
    nx = (pl, listOf (Ws.map fun W => Value.ref W.x).toArray pk) :: (L + 1 + 1 + 1 + 1, oZ) :: (L + 1 + 1 + 1, oR) :: (L + 1 + 1, oH) :: (L + 1, oN) :: Tr ∧
    (oR.data = .cell cR ∧ oH.data = .cell cH) ∧
    (m (Str.ofString "met") = some (.ref ml) ∧ m (Str.ofString "pages") = some (.ref pl) ∧ m (Str.ofString "mail") = some (.str (mailT runs (i - 1)) tm) ∧ m (Str.ofString "sendings") = sv) ∧
    OwnOff Tr [pl, L + 1 + 1 + 1 + 1, L + 1 + 1 + 1, L + 1 + 1, L + 1] ∧
    ((rl, listOf rus.toArray k) ∈ Tr ∧ (ml, listOf mus.toArray mk) ∈ Tr ∧ IntsAre mus (metF runs i) ∧ 172 < ml) ∧
    (Ws.length = i ∧ ∀ j W, Ws[j]? = some W → PageOk runs W j ∧ ∀ p ∈ W.objs P, p ∈ Tr) ∧ TabInv Tr i
theorem asLt {B B' : List (Addr × Obj)} {as : List Addr} (hAs : ∀ q ∈ as, ∃ p ∈ B, p.1 = q) {x : Addr} (h : AllLt x B') (hs : ∀ p ∈ B, p ∈ B') : ∀ q ∈ as, x ≠ q := by
  intro q hq
  obtain ⟨p, hp, rfl⟩ := hAs q hq
  exact Nat.ne_of_gt (tb_ltOf h p (hs p hp))
theorem asNe {B B' : List (Addr × Obj)} {as : List Addr} (hAs : ∀ q ∈ as, ∃ p ∈ B, p.1 = q) {x : Addr} (h : ∀ p ∈ B', p.1 ≠ x) (hs : ∀ p ∈ B, p ∈ B') : ∀ q ∈ as, x ≠ q := by
  intro q hq
  obtain ⟨p, hp, rfl⟩ := hAs q hq
  exact Ne.symm (h p (hs p hp))
theorem asUp {B B' : List (Addr × Obj)} {as : List Addr} (hAs : ∀ q ∈ as, ∃ p ∈ B, p.1 = q) {x : Addr} (h : ∀ p ∈ B', p.1 < x) (hs : ∀ p ∈ B, p ∈ B') : ∀ q ∈ as, x ≠ q := by
  intro q hq
  obtain ⟨p, hp, rfl⟩ := hAs q hq
  exact Nat.ne_of_gt (h p (hs p hp))
theorem hopTail (w : World) (mean : ExcName → Option Value) (mg mb : Str → Option Value) (h₀ : Heap) (L fa : Nat) (cd : Value) (m : Str → Option Value) (s sx : Shared) (Q : Flow → Shared → Prop) (Ea Eb : Value → Shared → Prop)
    (wl rl ml pl k kk mk pk i I : Nat) (us rus mus : List Value) (runs : List Int) (th tr tm : Tok) (oZ oR oH oN oI : Obj) (add Tq : List (Addr × Obj)) (Ws : List WsT) (sv : Option Value)
    (hB : Below callerA h₀ [] h₀) (hK : (hd.heap_39 w.params).In h₀) (hT : Top topProg LooseL mean mg mb h₀) (hch : CodeHd h₀ 176 172)
    (hF : Fr h₀ L s.heap m) (hm : m (Str.ofString "words") = some (.ref wl)) (hm2 : m (Str.ofString "met") = some (.ref ml)) (hm3 : m (Str.ofString "pages") = some (.ref pl)) (hm4 : m (Str.ofString "mail") = some (.str (mailT runs i) tm)) (hm5 : m (Str.ofString "sendings") = sv)
    (hN : News h₀ L s.heap ((L + 1 + 1 + 1 + 1, oZ) :: (L + 1 + 1 + 1, oR) :: (L + 1 + 1, oH) :: (L + 1, oN) :: (wl, listOf us.toArray kk) :: (add ++ (I, oI) :: (pl, listOf (Ws.map fun W => Value.ref W.x).toArray pk) :: Tq)))
    (hR : oR.data = .cell (some (.int (runs.length : Int) tr))) (hH : oH.data = .cell (some (.int (i : Int) th))) (hNn : oN.data = .cell (some (.ref rl)))
    (o : RunsOk runs) (hi : i ≤ 3) (hI : IntsAre rus runs) (hIm : IntsAre mus (metF runs i)) (hD : DatAll add us ((psF runs i).map wordD)) (h172 : 172 < ml) (hL : 172 < L) (hLr : L + 1 + 1 + 1 + 1 < rl) (hrp : rl < pl)
    (hwB : AllLt wl ((L + 1 + 1 + 1 + 1, oZ) :: (L + 1 + 1 + 1, oR) :: (L + 1 + 1, oH) :: (L + 1, oN) :: (I, oI) :: (pl, listOf (Ws.map fun W => Value.ref W.x).toArray pk) :: [])) (hadd : ∀ p ∈ add, wl < p.1)
    (hO : OwnOff Tq [I, pl, L + 1 + 1 + 1 + 1, L + 1 + 1 + 1, L + 1 + 1, L + 1]) (hIo : I ≠ pl ∧ I ≠ L + 1 + 1 + 1 + 1 ∧ I ≠ L + 1 + 1 + 1 ∧ I ≠ L + 1 + 1 ∧ I ≠ L + 1)
    (hrl : (rl, listOf rus.toArray k) ∈ Tq) (hml : (ml, listOf mus.toArray mk) ∈ Tq) (hWl : Ws.length = i) (hWs : ∀ j W, Ws[j]? = some W → PageOk runs W j ∧ ∀ p ∈ W.objs w.params, p ∈ Tq) (hTab : TabInv Tq (i + 1)) (hsx : ∃ hx tkx, s = { sx with heap := hx, toks := tkx }) :
    wpAny (model Challenge.rw_pe0179_01.row.prog w) (lawA L fa cd) (execs (hopBody.drop 2) (lawEnv L fa cd)) (HopPost h₀ L (HopInv w.params L pl rl k rus oZ oN runs sv (i + 1)) I oI sx Q) (fun e s1 => lawE w L fa cd Ea Eb e s1) s := by
  obtain ⟨hx, tkx, rfl⟩ := hsx
  refine cps ?_
  intro C9 hC9
  obtain ⟨i1, i2, i3, i4, i5⟩ := hIo
  refine hC9 ?_
  clear hC9 C9
  refine cps ?_
  intro C9 hC9
  obtain ⟨b1, b2, b3, b4, b5, b6, -⟩ := hwB
  refine hC9 ?_
  clear hC9 C9
  dsimp only at b1 b2 b3 b4 b5 b6
  have hOm := hO _ hml
  have hplm : pl ≠ ml := Ne.symm (hOm pl (by first | walk_at "subm" | simp))
  have hAs : ∀ q ∈ [I, pl, L + 1 + 1 + 1 + 1, L + 1 + 1 + 1, L + 1 + 1, L + 1], ∃ p ∈ ((L + 1 + 1 + 1 + 1, oZ) :: (L + 1 + 1 + 1, oR) :: (L + 1 + 1, oH) :: (L + 1, oN) :: (I, oI) :: (pl, listOf (Ws.map fun W => Value.ref W.x).toArray pk) :: [] : List (Addr × Obj)), p.1 = q := by
    exact fmC ⟨_, (by walk_at "subm" : (I, oI) ∈ _), rfl⟩ (fmC ⟨_, (by walk_at "subm" : (pl, listOf (Ws.map fun W => Value.ref W.x).toArray pk) ∈ _), rfl⟩ (fmC ⟨_, (by walk_at "subm" : (L + 1 + 1 + 1 + 1, oZ) ∈ _), rfl⟩ (fmC ⟨_, (by walk_at "subm" : (L + 1 + 1 + 1, oR) ∈ _), rfl⟩ (fmC ⟨_, (by walk_at "subm" : (L + 1 + 1, oH) ∈ _), rfl⟩ (fmC ⟨_, (by walk_at "subm" : (L + 1, oN) ∈ _), rfl⟩ fmN)))))
  refine hopMid w mean mg mb h₀ L fa cd m _ _ Ea Eb wl rl ml pl k kk mk pk i us rus mus (Ws.map fun W => Value.ref W.x) runs th tr oZ oR oH oN (add ++ (I, oI) :: Tq) hB hK hT hch hF hm hm2 hm3 ?_ hR hH hNn o hi hI hIm (hD.mono (fun p hp => by simp [hp])) (by rw [List.length_map]; omega) ?_ ⟨Nat.ne_of_lt b6, Nat.ne_of_gt hrp, hplm, neN (by omega), neN (by omega), neN (by omega), neN (by omega)⟩ ?_
  · refine sub_news hN ?_
    walk_at "sub"
  · intro p hp q hq
    rw [List.mem_singleton.mp hq]
    rcases List.mem_append.mp hp with hp | hp
    · exact Nat.ne_of_gt (Nat.lt_trans b6 (hadd p hp))
    · rcases List.mem_cons.mp hp with rfl | hp
      · exact i1
      · exact hO p hp pl (by first | walk_at "subm" | simp)
  intro W el ml' mk' eus mus' M' h' tk' F' e1 e2 N' hIm' hW hWa hoe hml'
  show NextAt _ _ _ _ _ _ _
  have hOff : OwnOff (W.objs w.params ++ (wl, listOf us.toArray kk) :: (ml', listOf mus'.toArray mk') :: (el, listOf eus.toArray eus.length) :: (rl, listOf rus.toArray k) :: (add ++ Tq)) [I, pl, L + 1 + 1 + 1 + 1, L + 1 + 1 + 1, L + 1 + 1, L + 1] := by
    intro p hp
    rcases List.mem_append.mp hp with hp | hp
    · refine asLt hAs (hWa p hp) ?_
      walk_at "sub"
    · simp only [List.mem_cons, List.mem_append] at hp
      rcases hp with rfl | rfl | rfl | rfl | hp | hp
      · exact fmC (Nat.ne_of_gt b5) (fmC (Nat.ne_of_gt b6) (fmC (Nat.ne_of_gt b1) (fmC (Nat.ne_of_gt b2) (fmC (Nat.ne_of_gt b3) (fmC (Nat.ne_of_gt b4) fmN)))))
      · rcases hml' with rfl | hml'
        · exact hOm
        · refine asUp hAs hml' ?_
          walk_at "sub"
      · refine asNe hAs hoe ?_
        walk_at "sub"
      · exact hO _ hrl
      · have := hadd p hp
        exact fmC (Nat.ne_of_gt (Nat.lt_trans b5 this)) (fmC (Nat.ne_of_gt (Nat.lt_trans b6 this)) (fmC (Nat.ne_of_gt (Nat.lt_trans b1 this)) (fmC (Nat.ne_of_gt (Nat.lt_trans b2 this)) (fmC (Nat.ne_of_gt (Nat.lt_trans b3 this)) (fmC (Nat.ne_of_gt (Nat.lt_trans b4 this)) fmN)))))
      · exact hO p hp
  refine ⟨h', tk', M', (pl, listOf ((Ws ++ [W]).map fun W => Value.ref W.x).toArray (pk + 1)) :: (L + 1 + 1 + 1 + 1, oZ) :: (L + 1 + 1 + 1, oR) :: (L + 1 + 1, oH) :: (L + 1, oN) :: (W.objs w.params ++ (wl, listOf us.toArray kk) :: (ml', listOf mus'.toArray mk') :: (el, listOf eus.toArray eus.length) :: (rl, listOf rus.toArray k) :: (add ++ Tq)), rfl, F', sub_news N' ?_, ?_, pk + 1, ml', mk', mus', Ws ++ [W], oR, oH, _, _, tm, _, rfl, ⟨hR, hH⟩, ⟨e1, ?_, ?_, ?_⟩, ?_, ⟨by simp, by simp, hIm', ?_⟩, ⟨by simp [hWl], ?_⟩, ?_⟩
  · rw [List.map_append]
    simp only [List.map_cons, List.map_nil]
    walk_at "sub"
  · refine fmC ?_ (fmC ?_ (fmC ?_ (fmC ?_ (fmC ?_ ?_))))
    · exact Ne.symm i1
    · exact Ne.symm i2
    · exact Ne.symm i3
    · exact Ne.symm i4
    · exact Ne.symm i5
    · intro p hp
      exact hOff p hp I (by first | walk_at "subm" | simp)
  · exact (e2 _ (by decide +kernel) (by decide +kernel) (by decide +kernel)).trans (hm3)
  · exact (e2 _ (by decide +kernel) (by decide +kernel) (by decide +kernel)).trans (hm4)
  · exact (e2 _ (by decide +kernel) (by decide +kernel) (by decide +kernel)).trans (hm5)
  · exact ownOff_sub hOff (by walk_at "sub")
  · rcases hml' with rfl | hml'
    · exact h172
    · have := ltN (hml' (L + 1, oN) (by first | walk_at "subm" | simp))
      refine ltN ?_
      omega
  · intro j W' hj
    rcases Nat.lt_or_ge j Ws.length with hlt | hge
    · rw [List.getElem?_append_left hlt] at hj
      obtain ⟨p1, p2⟩ := hWs j W' hj
      exact ⟨p1, fun p hp => by have := p2 p hp; (first | walk_at "subm" | simp [this])⟩
    · rw [List.getElem?_append_right hge] at hj
      have hj0 : j - Ws.length = 0 := by
        rcases Nat.eq_zero_or_pos (j - Ws.length) with h | h
        · exact h
        · rw [List.getElem?_eq_none (by simp; omega)] at hj; cases hj
      rw [hj0] at hj
      have hj' : W = W' := by simpa using hj
      subst hj'
      have : j = i := by omega
      subst this
      exact ⟨hW, fun p hp => by simp only [List.mem_append]; exact .inl hp⟩
  · refine cps ?_
    intro C9 hC9
    obtain ⟨c1, c2, c3, c4, c5, c6⟩ := hTab
    refine hC9 ?_
    clear hC9 C9
    exact ⟨c1, c2, c3, c4, c5, fun p hp => by have := c6 p hp; (first | walk_at "subm" | simp [this])⟩
end Mine
end
section
open PySem PySem.W PyProof.Rows
namespace Mine
theorem fresh_L13 : True := by
  k_with_none
  w_top off
  trivial
theorem hopTurn (w : World) (mean : ExcName → Option Value) (mg mb : Str → Option Value) (h₀ : Heap) (L fa : Nat) (cd : Value) (m : Str → Option Value) (sx : Shared) (Q : Flow → Shared → Prop) (Ea Eb : Value → Shared → Prop) (px : Pos)
    (rl pl k i I n tk : Nat) (rus : List Value) (runs : List Int) (t' : Tok) (oZ oN oI : Obj) (nx : List (Addr × Obj)) (sv : Option Value) (h : Heap)
    (hB : Below callerA h₀ [] h₀) (hK : (hd.heap_39 w.params).In h₀) (hT : Top topProg LooseL mean mg mb h₀) (hch : CodeHd h₀ 176 172)
    (hNn : oN.data = .cell (some (.ref rl))) (o : RunsOk runs) (hn : n ≤ 4) (hI : IntsAre rus runs) (hL : 172 < L) (hLr : L + 1 + 1 + 1 + 1 < rl) (hrp : rl < pl)
    (hi : i < n) (hJ : HopInv w.params L pl rl k rus oZ oN runs sv i m nx) (hF : Fr h₀ L h m) (hN : News h₀ L h ((I, oI) :: nx)) (hIo : ∀ p ∈ nx, p.1 ≠ I) :
    wpAny (model Challenge.rw_pe0179_01.row.prog w) (lawA L fa cd) (assign (.Name (Str.ofString "hop") px) (lawEnv L fa cd) (.int (0 + (i : Int)) t'))
      (fun _ s₃ => wpAny (model Challenge.rw_pe0179_01.row.prog w) (lawA L fa cd) (execs hopBody (lawEnv L fa cd)) (HopPost h₀ L (HopInv w.params L pl rl k rus oZ oN runs sv (i + 1)) I oI { sx with heap := h, toks := tk } Q) (fun e s1 => lawE w L fa cd Ea Eb e s1) s₃)
      (fun e s1 => lawE w L fa cd Ea Eb e s1) { sx with heap := h, toks := tk } := by
  refine cps ?_
  intro C9 hC9
  obtain ⟨pk, ml, mk, mus, Ws, oR, oH, cR, cH, tm, Tr, rfl, ⟨hR, hH⟩, ⟨hm2, hm3, hm4, hm5⟩, hO, ⟨hrl, hml, hIm, h172⟩, ⟨hWl, hWs⟩, hTab⟩ := hJ
  refine hC9 ?_
  clear hC9 C9
  have jpl := hIo (pl, listOf (Ws.map fun W => Value.ref W.x).toArray pk) (by first | walk_at "subm" | simp)
  have j1 := hIo (L + 1 + 1 + 1 + 1, oZ) (by first | walk_at "subm" | simp)
  have j2 := hIo (L + 1 + 1 + 1, oR) (by first | walk_at "subm" | simp)
  have j3 := hIo (L + 1 + 1, oH) (by first | walk_at "subm" | simp)
  have j4 := hIo (L + 1, oN) (by first | walk_at "subm" | simp)
  dsimp only at jpl j1 j2 j3 j4
  have hTo : OwnOff ((I, oI) :: (pl, listOf (Ws.map fun W => Value.ref W.x).toArray pk) :: Tr) [L + 1 + 1 + 1 + 1, L + 1 + 1 + 1, L + 1 + 1, L + 1] := by
    refine fmC ?_ (fmC ?_ ?_)
    · exact fmC (Ne.symm j1) (fmC (Ne.symm j2) (fmC (Ne.symm j3) (fmC (Ne.symm j4) fmN)))
    · exact fmC (neN (by omega)) (fmC (neN (by omega)) (fmC (neN (by omega)) (fmC (neN (by omega)) fmN)))
    · intro p hp
      intro q hq
      exact hO p hp q (List.mem_cons_of_mem _ hq)
  refine hopA w mean mg mb h₀ L fa cd m _ _ _ px _ oZ oR oH oN cH ((I, oI) :: (pl, listOf (Ws.map fun W => Value.ref W.x).toArray pk) :: Tr) hB hK hT hch hF ?_ hH hTo ?_
  · refine sub_news hN ?_
    walk_at "sub"
  intro oH' h1 tk1 F1 hH' N1
  have e0 : (0 : Int) + (i : Int) = (i : Int) := by omega
  rw [e0] at hH'
  refine cutE (show hopBody = hopBody.take 2 ++ hopBody.drop 2 from rfl) ?_
  have hpl172 : 172 < pl := by omega
  have hOTr : OwnOff Tr [I, pl, L + 1 + 1 + 1 + 1, L + 1 + 1 + 1, L + 1 + 1, L + 1] := by
    intro p hp q hq
    rcases List.mem_cons.mp hq with rfl | hq
    · exact hIo p (by first | walk_at "subm" | simp [hp])
    · exact hO p hp q hq
  cases i with
  | zero =>
    obtain ⟨Tr0, rfl, hTr0⟩ := hTab
    have jI : 172 ≠ I := hIo (172, tabObj #[]) (by first | walk_at "subm" | simp)
    have hrl0 : (rl, listOf rus.toArray k) ∈ Tr0 := by
      rcases List.mem_cons.mp hrl with e | h
      · have : rl = 172 := congrArg Prod.fst e
        omega
      · exact h
    have hml0 : (ml, listOf mus.toArray mk) ∈ Tr0 := by
      rcases List.mem_cons.mp hml with e | h
      · have : ml = 172 := congrArg Prod.fst e
        omega
      · exact h
    have hOT0 : OwnOff Tr0 [I, pl, L + 1 + 1 + 1 + 1, L + 1 + 1 + 1, L + 1 + 1, L + 1] := fun p hp => hOTr p (List.mem_cons_of_mem _ hp)
    refine hop0 (rest := hopBody.drop 2) w mean mg mb h₀ L fa cd m _ _ Ea Eb (mailT runs 0) tm _ oZ oR oH' oN cR ((I, oI) :: (pl, listOf (Ws.map fun W => Value.ref W.x).toArray pk) :: Tr0) hB hK hT hch F1 hm4 (Nat.le_trans (mail_size o.len o.bd (by decide)) (by decide)) (mail_plain runs 0) ?_ hR hH' hL ?_ ?_ ?_
    · refine sub_news N1 ?_
      walk_at "sub"
    · intro p hp q hq
      simp only [List.mem_cons] at hp
      have hq' : q ∈ [L + 1 + 1 + 1 + 1, L + 1 + 1 + 1, L + 1 + 1, L + 1] ∨ q = 172 := by
        simp only [List.mem_cons, List.not_mem_nil, or_false] at hq ⊢
        grind
      rcases hq' with hq' | rfl
      · rcases hp with rfl | rfl | hp
        · exact hTo (I, oI) (by first | walk_at "subm" | simp) q hq'
        · exact hTo (pl, listOf (Ws.map fun W => Value.ref W.x).toArray pk) (by first | walk_at "subm" | simp) q hq'
        · exact hTo p (by first | walk_at "subm" | simp [hp]) q hq'
      · rcases hp with rfl | rfl | hp
        · exact Ne.symm jI
        · exact neN (by dsimp only; omega)
        · exact hTr0 p hp
    · refine fmC ?_ (fmC ?_ (fmC ?_ (fmC ?_ (fmC ?_ (fmC ?_ ?_)))))
      · exact neN (by dsimp only; omega)
      · exact neN (by dsimp only; omega)
      · exact neN (by dsimp only; omega)
      · exact neN (by dsimp only; omega)
      · exact Ne.symm jI
      · exact neN (by dsimp only; omega)
      · intro p hp
        exact hTr0 p hp
    intro wl us kk add tr cR9 oCR cL9 oCL oR' M' h2 tk2 F2 g1 g2 N2 hR' hD hTk a1 a2 a3 a4 a5 a6 a7 a8 a9
    rw [psF_mail o] at hD hR'
    have hasub : ∀ {x : Nat}, AllLt x ((L + 1 + 1 + 1 + 1, oZ) :: (L + 1 + 1 + 1, oR) :: (L + 1 + 1, oH') :: (L + 1, oN) :: (I, oI) :: (pl, listOf (Ws.map fun W => Value.ref W.x).toArray pk) :: Tr0) → AllLt x ((L + 1 + 1 + 1 + 1, oZ) :: (L + 1 + 1 + 1, oR') :: (L + 1 + 1, oH') :: (L + 1, oN) :: (I, oI) :: (pl, listOf (Ws.map fun W => Value.ref W.x).toArray pk) :: []) := by
      rintro x hX9
      refine cps ?_
      intro C9 hC9
      obtain ⟨x1, x2, x3, x4, x5, x6, -⟩ := hX9
      refine hC9 ?_
      clear hC9 C9
      exact ⟨x1, x2, x3, x4, x5, x6, trivial⟩
    have hasne : ∀ {x : Nat}, AllLt x ((L + 1 + 1 + 1 + 1, oZ) :: (L + 1 + 1 + 1, oR) :: (L + 1 + 1, oH') :: (L + 1, oN) :: (I, oI) :: (pl, listOf (Ws.map fun W => Value.ref W.x).toArray pk) :: Tr0) → ∀ q ∈ [I, pl, L + 1 + 1 + 1 + 1, L + 1 + 1 + 1, L + 1 + 1, L + 1], x ≠ q := by
      rintro x hX9
      refine cps ?_
      intro C9 hC9
      obtain ⟨x1, x2, x3, x4, x5, x6, -⟩ := hX9
      refine hC9 ?_
      clear hC9 C9
      dsimp only at x1 x2 x3 x4 x5 x6
      exact fmC (Nat.ne_of_gt x5) (fmC (Nat.ne_of_gt x6) (fmC (Nat.ne_of_gt x1) (fmC (Nat.ne_of_gt x2) (fmC (Nat.ne_of_gt x3) (fmC (Nat.ne_of_gt x4) fmN)))))
    refine hopTail w mean mg mb h₀ L fa cd M' _ _ Q Ea Eb wl rl ml pl k kk mk pk 0 I us rus mus runs _ tr tm oZ oR' oH' oN oI add ((172, tabObj (tabOf cR9 cL9)) :: (cR9, oCR) :: (cL9, oCL) :: Tr0) Ws sv hB hK hT hch F2 g1 ((g2 _ (by decide +kernel)).trans (hm2)) ((g2 _ (by decide +kernel)).trans (hm3)) ((g2 _ (by decide +kernel)).trans (hm4)) ((g2 _ (by decide +kernel)).trans (hm5)) ?_ hR' hH' hNn o (by omega) hI hIm hD h172 hL hLr hrp (hasub a1) a5 ?_ ⟨Ne.symm jpl, Ne.symm j1, Ne.symm j2, Ne.symm j3, Ne.symm j4⟩ (by simp [hrl0]) (by simp [hml0]) hWl ?_ ⟨cR9, oCR, cL9, oCL, hTk, by simp⟩ ⟨_, _, rfl⟩
    · refine sub_news N2 ?_
      walk_at "sub"
    · refine fmC ?_ (fmC ?_ (fmC ?_ ?_))
      · exact fmC (jI) (fmC (neN (by omega)) (fmC (neN (by omega)) (fmC (neN (by omega)) (fmC (neN (by omega)) (fmC (neN (by omega)) fmN)))))
      · exact hasne a6
      · exact hasne a7
      · intro p hp
        exact hOT0 p hp
    · intro j W hj
      have : Ws = [] := List.length_eq_zero_iff.mp hWl
      subst this
      simp at hj
  | succ i =>
    refine cps ?_
    intro C9 hC9
    obtain ⟨cR9, oCR, cL9, oCL, hTk, hmem⟩ := hTab
    refine hC9 ?_
    clear hC9 C9
    have hh : i ≤ 3 := by omega
    have hnext := mail_next o.len o.bd hh
    have hs36 := mail_size o.len o.bd hh
    rw [show i + 1 - 1 = i from rfl] at hm4
    refine hopN (rest := hopBody.drop 2) w mean mg mb h₀ L fa cd m _ _ Ea Eb (mailT runs i) tm _ ((i + 1 : Nat) : Int) cR9 oCR cL9 oCL oZ oR oH' oN cR ((I, oI) :: (pl, listOf (Ws.map fun W => Value.ref W.x).toArray pk) :: Tr) hB hK hT hch F1 hm4 (Nat.le_trans hs36 (by decide)) ?_ ?_ (by omega) N1 hR hH' hL hTo hTk ?_ ?_
    · rw [hnext]; exact Nat.le_trans (mail_size o.len o.bd (by omega)) (by decide)
    · rw [hnext]; exact mail_plain _ _
    · intro p hp
      have := hmem p hp
      (first | walk_at "subm" | simp [this])
    intro wl us kk add tr t2 oR' M' h2 tk2 F2 g1 g3 g2 N2 hR' hD a1 a5
    rw [hnext] at hD hR' g3
    rw [psF_mail o] at hD hR'
    have hasub : ∀ {x : Nat}, AllLt x ((L + 1 + 1 + 1 + 1, oZ) :: (L + 1 + 1 + 1, oR) :: (L + 1 + 1, oH') :: (L + 1, oN) :: (I, oI) :: (pl, listOf (Ws.map fun W => Value.ref W.x).toArray pk) :: Tr) → AllLt x ((L + 1 + 1 + 1 + 1, oZ) :: (L + 1 + 1 + 1, oR') :: (L + 1 + 1, oH') :: (L + 1, oN) :: (I, oI) :: (pl, listOf (Ws.map fun W => Value.ref W.x).toArray pk) :: []) := by
      rintro x hX9
      refine cps ?_
      intro C9 hC9
      obtain ⟨x1, x2, x3, x4, x5, x6, -⟩ := hX9
      refine hC9 ?_
      clear hC9 C9
      exact ⟨x1, x2, x3, x4, x5, x6, trivial⟩
    refine hopTail w mean mg mb h₀ L fa cd M' _ _ Q Ea Eb wl rl ml pl k kk mk pk (i + 1) I us rus mus runs _ tr _ oZ oR' oH' oN oI add Tr Ws sv hB hK hT hch F2 g1 ((g2 _ (by decide +kernel) (by decide +kernel)).trans (hm2)) ((g2 _ (by decide +kernel) (by decide +kernel)).trans (hm3)) g3 ((g2 _ (by decide +kernel) (by decide +kernel)).trans (hm5)) ?_ hR' hH' hNn o (by omega) hI hIm hD h172 hL hLr hrp (hasub a1) a5 hOTr ⟨Ne.symm jpl, Ne.symm j1, Ne.symm j2, Ne.symm j3, Ne.symm j4⟩ hrl hml hWl hWs ⟨cR9, oCR, cL9, oCL, hTk, hmem⟩ ⟨_, _, rfl⟩
    refine sub_news N2 ?_
    walk_at "sub"
end Mine
end
section
open PySem PySem.W PyProof.Rows
namespace Mine
theorem fresh_L14 : True := by
  k_with_none
  w_top off
  trivial
theorem seg3 (w : World) (mean : ExcName → Option Value) (mg mb : Str → Option Value) (h₀ : Heap) (L fa rl k pl ml : Nat) (cd : Value) (m : Str → Option Value) (s : Shared) (Q : Flow → Shared → Prop) (Ea Eb : Value → Shared → Prop) (rest : List Stmt)
    (us : List Value) (runs : List Int) (snd : Nat) (t2 t3 : Tok) (oZ oR oH oN : Obj) (cZ cR cH : Option Value)
    (hB : Below callerA h₀ [] h₀) (hK : (hd.heap_39 w.params).In h₀) (hT : Top topProg LooseL mean mg mb h₀) (hch : CodeHd h₀ 176 172)
    (hF : Fr h₀ L s.heap m) (hm : m (Str.ofString "met") = some (.ref ml)) (hm2 : m (Str.ofString "pages") = some (.ref pl)) (hm3 : m (Str.ofString "mail") = some (.str (mailT runs 0) t3)) (hm4 : m (Str.ofString "sendings") = some (.int (snd : Int) t2))
    (hN : News h₀ L s.heap [(ml, W.listOf #[] 0), (pl, W.listOf #[] 0), (rl, listOf us.toArray k), (L + 1 + 1 + 1 + 1, oZ), (L + 1 + 1 + 1, oR), (L + 1 + 1, oH), (L + 1, oN), (172, tabObj #[])])
    (hZ : oZ.data = .cell cZ) (hR : oR.data = .cell cR) (hH : oH.data = .cell cH) (hNn : oN.data = .cell (some (.ref rl))) (hL : 172 < L) (hLr : L + 1 + 1 + 1 + 1 < rl) (hrp : rl < pl) (hpm : pl < ml)
    (hI : IntsAre us runs) (o : RunsOk runs) (hs : snd ≤ 3)
    (hc : ∀ (M : Str → Option Value) (nx : List (Addr × Obj)) (h' : Heap) (tk' : Nat), Fr h₀ L h' M → News h₀ L h' nx → HopInv w.params L pl rl k us oZ oN runs (some (.int (snd : Int) t2)) (snd + 1) M nx →
      wpAny (model Challenge.rw_pe0179_01.row.prog w) (lawA L fa cd) (execs rest (lawEnv L fa cd)) Q (fun e s1 => lawE w L fa cd Ea Eb e s1) { s with heap := h', toks := tk' }) :
    wpAny (model Challenge.rw_pe0179_01.row.prog w) (lawA L fa cd) (execs ((lawDef.body.drop 8).take 1 ++ rest) (lawEnv L fa cd)) Q (fun e s1 => lawE w L fa cd Ea Eb e s1) s := by
  have hK0 := hK
  revert hK
  k_fill
  intro hK
  k_with_none
  have hF1 := fr1 hF hm4
  clear hF
  have kdm := kdMark
  dsimp only [lawDef, defOf, lawEnv, lawA, lawE, List.drop, List.take, List.cons_append, List.nil_append]
  all_goals (try k_fold)
  refine wpAny_execs_cons ?_
  refine For_turns hF1 ?_
  k_steps
  rename IsRange _ _ _ _ _ _ _ _ => kR
  rename Fr _ _ _ _ => kF
  rename News _ _ _ _ => kN
  rw [kept0 hm4] at kF
  refine range_loop (A := lawA L fa cd) (env := lawEnv L fa cd) (body := hopBody) (n := snd + 1) (HopInv w.params L pl rl k us oZ oN runs (some (.int (snd : Int) t2))) rfl kR ?_ ?_ kF (sub_news kN (l' := (pl, W.listOf #[] 0) :: (L + 1 + 1 + 1 + 1, oZ) :: (L + 1 + 1 + 1, oR) :: (L + 1 + 1, oH) :: (L + 1, oN) :: (172, tabObj #[]) :: [(ml, W.listOf #[] 0), (rl, listOf us.toArray k)]) ?_) ?_ ?_ ?_
  · have := small_len (n := snd + 1) (by omega)
    simpa using this
  · have := size_len (snd + 1)
    simpa using this
  · walk_at "sub"
  · refine ⟨0, ml, 0, [], [], oR, oH, cR, cH, t3, (172, tabObj #[]) :: [(ml, W.listOf #[] 0), (rl, listOf us.toArray k)], rfl, ⟨hR, hH⟩, ⟨hm, hm2, hm3, hm4⟩, ?_, ⟨by simp, by simp, .nil, by omega⟩, ⟨rfl, by simp⟩, ⟨_, rfl, ?_⟩⟩
    · intro p hp
      simp only [List.mem_cons, List.not_mem_nil, or_false] at hp
      simp only [List.forall_mem_cons, List.not_mem_nil, false_implies, implies_true, and_true]
      rcases hp with rfl | rfl | rfl
      · exact ⟨neN (by dsimp only; omega), neN (by dsimp only; omega), neN (by dsimp only; omega), neN (by dsimp only; omega), neN (by dsimp only; omega)⟩
      · exact ⟨neN (by dsimp only; omega), neN (by dsimp only; omega), neN (by dsimp only; omega), neN (by dsimp only; omega), neN (by dsimp only; omega)⟩
      · exact ⟨neN (by dsimp only; omega), neN (by dsimp only; omega), neN (by dsimp only; omega), neN (by dsimp only; omega), neN (by dsimp only; omega)⟩
    · intro p hp
      simp only [List.mem_cons, List.not_mem_nil, or_false] at hp
      rcases hp with rfl | rfl
      · exact neN (by dsimp only; omega)
      · exact neN (by dsimp only; omega)
  · intro i t' M nx I oI h tk hi hJ F N hIo
    exact hopTurn w mean mg mb h₀ L fa cd M _ _ Ea Eb _ rl pl k i I (snd + 1) tk us runs t' oZ oN oI nx _ h hB hK0 hT hch hNn o (by omega) hI hL hLr hrp hi hJ F N hIo
  · intro M nx h tk F N hJ
    exact hc M nx h tk F N hJ
end Mine
end
section
open PySem PySem.W PyProof.Rows
namespace Mine
theorem fresh_L15 : True := by
  k_with_none
  w_top off
  trivial
theorem item_at {prog : Program} {w : World} {A : Around} {E : Value → Shared → Prop} {s : Shared} {h₀ : Heap} {L l : Addr} {news : List (Addr × Obj)} {vs : List Value} {n : Nat} {value slice : PySem.Expr} {k : Int} {u : Tok} {v : Value} {Q : Value → Shared → Prop} (N : News h₀ L s.heap news) (hm : (l, listOf vs.toArray n) ∈ news) (h0 : 0 ≤ k) (hhi : k < 2 ^ 63) (hx : vs[k.toNat]? = some v) (h : Q v s)
    (hs : subscripted slice false (.ref l) (.int k u) = operate [.ref l, .int k u] (getItem (.ref l) (.int k u)) := by with_unfolding_all rfl) :
    wpAny (model prog w) A (subscriptTail value slice (.ref l) (.int k u)) Q E s :=
  tail_any (News.isList N hm).typeIs slot_list_getitem.lookup (wpAny_getItem_list (News.isList N hm) h0 hhi (by simpa using hx) h) hs
theorem kept2' {m : Str → Option Value} {a b : Str} {u v : Value} (h1 : m a = some u) (h2 : m b = some v) : (fun y => if y = a then some u else if y = b then some v else m y) = m := by
  funext y
  by_cases q : y = a
  · rw [if_pos q, q, h1]
  · rw [if_neg q]
    by_cases q : y = b
    · rw [if_pos q, q, h2]
    · rw [if_neg q]
noncomputable def lastR (runs : List Int) : Int := runs.getD (runs.length - 1) 0
noncomputable def maxR (runs : List Int) : Int := runs.foldl max 0
noncomputable def behindF (runs : List Int) (snd : Nat) : Int := if 0 < lastR runs then (snd : Int) else 0
noncomputable def topF (runs : List Int) (snd : Nat) : Int := if 0 < maxR runs then maxR runs + (snd : Int) + 1 else 1
theorem maxR_spec (runs : List Int) : ∀ z : Int, (∀ a ∈ runs, a ≤ runs.foldl max z) ∧ z ≤ runs.foldl max z ∧ (runs.foldl max z = z ∨ runs.foldl max z ∈ runs) := by
  induction runs with
  | nil => intro z; simp
  | cons r l ih =>
    intro z
    obtain ⟨h1, h2, h3⟩ := ih (max z r)
    rw [List.foldl_cons]
    refine ⟨?_, by omega, ?_⟩
    · intro a ha
      rcases List.mem_cons.mp ha with rfl | ha
      · omega
      · exact h1 a ha
    · rcases h3 with h3 | h3
      · rcases Int.le_total z r with q | q
        · right; rw [h3, Int.max_eq_right q]; simp
        · left; rw [h3, Int.max_eq_left q]
      · right; simp [h3]
theorem maxR_eq {runs : List Int} (hb : ∀ r ∈ runs, 0 ≤ r) {M : Int} (hm : M ∈ runs) (hle : ∀ a ∈ runs, a ≤ M) : M = maxR runs := by
  obtain ⟨h1, h2, h3⟩ := maxR_spec runs 0
  unfold maxR
  have q1 := h1 M hm
  have q2 := hb M hm
  rcases h3 with h3 | h3
  · omega
  · have := hle _ h3; omega
theorem lastR_eq {runs : List Int} (h : 0 < runs.length) : runs.getD (-1 + (runs.length : Int)).toNat 0 = lastR runs := by
  unfold lastR
  congr 1
  omega
theorem behind_yes {runs : List Int} {snd : Nat} (h : 0 < runs.length) (c : 0 < runs.getD (-1 + (runs.length : Int)).toNat 0) : (snd : Int) = behindF runs snd := by
  rw [lastR_eq h] at c; unfold behindF; rw [if_pos c]
theorem behind_no {runs : List Int} {snd : Nat} (h : 0 < runs.length) (c : ¬ 0 < runs.getD (-1 + (runs.length : Int)).toNat 0) : 0 = behindF runs snd := by
  rw [lastR_eq h] at c; unfold behindF; rw [if_neg c]
theorem top_yes {runs : List Int} {snd : Nat} (o : RunsOk runs) {M N : Int} (hm : M ∈ runs) (hle : ∀ a ∈ runs, a ≤ M) (c : 0 < N) (hn : N ∈ runs) : M + (snd : Int) + 1 = topF runs snd := by
  have e1 := maxR_eq (fun r hr => (o.bd r hr).1) hm hle
  have e2 := hle N hn
  unfold topF; rw [if_pos (by omega), e1]
theorem top_no {runs : List Int} {snd : Nat} (o : RunsOk runs) {M : Int} (hm : M ∈ runs) (hle : ∀ a ∈ runs, a ≤ M) (c : ¬ 0 < M) : 1 = topF runs snd := by
  have e1 := maxR_eq (fun r hr => (o.bd r hr).1) hm hle
  unfold topF; rw [if_neg (by omega)]
theorem seg4 (w : World) (mean : ExcName → Option Value) (mg mb : Str → Option Value) (h₀ : Heap) (L fa rl k pl pk x0 xn : Nat) (cd : Value) (m : Str → Option Value) (s : Shared) (Q : Flow → Shared → Prop) (Ea Eb : Value → Shared → Prop) (rest : List Stmt)
    (us pus : List Value) (runs : List Int) (snd : Nat) (t2 : Tok) (oZ oR oH oN : Obj) (T : List (Addr × Obj))
    (hB : Below callerA h₀ [] h₀) (hK : (hd.heap_39 w.params).In h₀) (hT : Top topProg LooseL mean mg mb h₀) (hch : CodeHd h₀ 176 172)
    (hF : Fr h₀ L s.heap m) (hm2 : m (Str.ofString "pages") = some (.ref pl)) (hm4 : m (Str.ofString "sendings") = some (.int (snd : Int) t2))
    (hN : News h₀ L s.heap ((pl, listOf pus.toArray pk) :: (L + 1 + 1 + 1 + 1, oZ) :: (L + 1 + 1 + 1, oR) :: (L + 1 + 1, oH) :: (L + 1, oN) :: (rl, listOf us.toArray k) :: T))
    (hNn : oN.data = .cell (some (.ref rl))) (hI : IntsAre us runs) (o : RunsOk runs) (hs : 1 ≤ snd ∧ snd ≤ 3)
    (hp0 : pus[0]? = some (.ref x0)) (hpn : pus[snd]? = some (.ref xn))
    (hc : ∀ (zl : Nat) (bh tp : Int) (tb tt : Tok) (M : Str → Option Value) (h' : Heap) (tk' : Nat), bh = behindF runs snd → tp = topF runs snd → Fr h₀ L h' M → M (Str.ofString "moves") = some (.ref zl) → M (Str.ofString "first") = some (.ref x0) → M (Str.ofString "last") = some (.ref xn) → M (Str.ofString "behind") = some (.int bh tb) → M (Str.ofString "top") = some (.int tp tt) →
      (∀ y, y ≠ Str.ofString "moves" → y ≠ Str.ofString "first" → y ≠ Str.ofString "last" → y ≠ Str.ofString "behind" → y ≠ Str.ofString "top" → M y = m y) →
      News h₀ L h' ((zl, W.listOf #[] 0) :: (pl, listOf pus.toArray pk) :: (L + 1 + 1 + 1 + 1, oZ) :: (L + 1 + 1 + 1, oR) :: (L + 1 + 1, oH) :: (L + 1, oN) :: (rl, listOf us.toArray k) :: T) → AllLt zl ((pl, listOf pus.toArray pk) :: (L + 1 + 1 + 1 + 1, oZ) :: (L + 1 + 1 + 1, oR) :: (L + 1 + 1, oH) :: (L + 1, oN) :: (rl, listOf us.toArray k) :: T) →
      wpAny (model Challenge.rw_pe0179_01.row.prog w) (lawA L fa cd) (execs rest (lawEnv L fa cd)) Q (fun e s1 => lawE w L fa cd Ea Eb e s1) { s with heap := h', toks := tk' }) :
    wpAny (model Challenge.rw_pe0179_01.row.prog w) (lawA L fa cd) (execs ((lawDef.body.drop 9).take 5 ++ rest) (lawEnv L fa cd)) Q (fun e s1 => lawE w L fa cd Ea Eb e s1) s := by
  have hlen := o.len
  have hne : 0 < runs.length := List.length_pos_iff.mpr o.ne
  revert hK
  k_fill
  intro hK
  k_with_none
  have hF1 := fr1 (fr1 hF hm4) (a := Str.ofString "pages") (by rw [if_neg (by decide +kernel)]; exact hm2)
  clear hF
  have kdm := kdMark
  dsimp only [lawDef, defOf, lawEnv, lawA, lawE, List.drop, List.take, List.cons_append, List.nil_append]
  all_goals (try k_fold)
  k_steps
  k_dflt (refine item_at (by k_asm) (by k_mem) (by decide) (by decide) hp0 ?_)
  k_steps
  k_dflt (refine item_at (by k_asm) (by k_mem) (by omega) (by omega) (by simpa using hpn) ?_)
  k_steps
  all_goals (
    rename Fr _ _ _ _ => zF
    rename News _ _ _ _ => zN
    rename _ ∧ _ ∧ _ ∧ _ ∧ _ ∧ _ ∧ AllLt _ _ => zl9
    refine hc _ _ _ _ _ _ _ _ ?_ ?_ zF rfl rfl rfl rfl rfl ?_ zN zl9
    · first
      | exact behind_yes hne (by assumption)
      | exact behind_no hne (by assumption)
    · first
      | (rename 0 < _ => hc0; exact top_yes o (by assumption) (by assumption) hc0 (by assumption))
      | (rename ¬ 0 < _ => hc0; exact top_no o (by assumption) (by assumption) hc0)
    · intro y h1 h2 h3 h4 h5
      (try dsimp only)
      rw [if_neg h1, if_neg h5, if_neg h4, if_neg h3, if_neg h2]
      exact congrFun (kept2' hm2 hm4) y)
end Mine
end
section
open PySem PySem.W PyProof.Rows
namespace Mine
theorem fresh_L16 : True := by
  k_with_none
  w_top off
  trivial
noncomputable abbrev movBody : List Stmt := match lawDef.body.drop 14 with
  | s :: _ => forBody s
  | [] => []
noncomputable def nearF (runs : List Int) (size : Int) : Int := colF runs.dropLast size + lastR runs
noncomputable def cntM (met : List Int) (size : Int) : Int := ((met.filter fun l => decide (l.fmod size = 0)).length : Int)
noncomputable def farF (runs met : List Int) (snd : Nat) (size : Int) : Int := nearF runs size + size * cntM met size + behindF runs snd
noncomputable def moveD (runs met : List Int) (snd : Nat) (size : Int) : Dat := .tuple [.int size, .int (nearF runs size), .int (farF runs met snd size)]
noncomputable def movesF (runs met : List Int) (snd : Nat) (n : Nat) : List Dat := (rangeKs 1 n).map (moveD runs met snd)
theorem take_short {runs : List Int} (h : runs.length ≤ 4) : (List.take (runs.length - 1) runs).length ≤ 1000 := by
  have := List.length_take_le (runs.length - 1) runs
  omega
theorem kept3' {m : Str → Option Value} {a b c : Str} {u v x : Value} (h1 : m a = some u) (h2 : m b = some v) (h3 : m c = some x) : (fun y => if y = a then some u else if y = b then some v else if y = c then some x else m y) = m := by
  funext y
  by_cases q : y = a
  · rw [if_pos q, q, h1]
  · rw [if_neg q]
    by_cases q : y = b
    · rw [if_pos q, q, h2]
    · rw [if_neg q]
      by_cases q : y = c
      · rw [if_pos q, q, h3]
      · rw [if_neg q]
section
theorem movTurn (w : World) (mean : ExcName → Option Value) (mg mb : Str → Option Value) (h₀ : Heap) (L fa : Nat) (cd : Value) (m : Str → Option Value) (s : Shared) (Q : Flow → Shared → Prop) (Ea Eb : Value → Shared → Prop) (px : Pos)
    (rl ml zl k mk zk : Nat) (us mus zv : List Value) (runs met : List Int) (size bh : Int) (t' tb : Tok) (oZ oR oH oN : Obj) (cZ : Option Value) (T : List (Addr × Obj))
    (hB : Below callerA h₀ [] h₀) (hK : (hd.heap_39 w.params).In h₀) (hT : Top topProg LooseL mean mg mb h₀) (hch : CodeHd h₀ 176 172)
    (hF : Fr h₀ L s.heap m) (hm : m (Str.ofString "moves") = some (.ref zl)) (hm2 : m (Str.ofString "met") = some (.ref ml)) (hm3 : m (Str.ofString "behind") = some (.int bh tb))
    (hN : News h₀ L s.heap ((zl, listOf zv.toArray zk) :: (L + 1 + 1 + 1 + 1, oZ) :: (L + 1 + 1 + 1, oR) :: (L + 1 + 1, oH) :: (L + 1, oN) :: (rl, listOf us.toArray k) :: (ml, listOf mus.toArray mk) :: T))
    (hZ : oZ.data = .cell cZ) (hNn : oN.data = .cell (some (.ref rl))) (o : RunsOk runs) (hI : IntsAre us runs) (hIm : IntsAre mus met) (hml : met.length ≤ 100) (hs1 : 1 ≤ size) (hs2 : size ≤ 20) (hzv : zv.length ≤ 20)
    (hO : OwnOff T [zl, L + 1 + 1 + 1 + 1]) (hzo : zl ≠ L + 1 + 1 + 1 + 1 ∧ zl ≠ L + 1 + 1 + 1 ∧ zl ≠ L + 1 + 1 ∧ zl ≠ L + 1 ∧ zl ≠ rl ∧ zl ≠ ml) (hro : rl ≠ L + 1 + 1 + 1 + 1 ∧ ml ≠ L + 1 + 1 + 1 + 1)
    (hc : ∀ (D : Nat) (oD oZ' : Obj) (M' : Str → Option Value) (h' : Heap) (tk' : Nat), Fr h₀ L h' M' → (∀ y, y ≠ Str.ofString "near" → M' y = m y) → oZ'.data = .cell (some (.int size t')) →
      (∃ u1 u2 u3 : Tok, oD = ({ cls := .type "tuple", data := .seq #[.int size u1, .int (colF runs.dropLast size + lastR runs) u2, .int (colF runs.dropLast size + lastR runs + size * ((met.filter fun l => decide (l.fmod size = 0)).length : Int) + bh) u3] } : Obj)) →
      News h₀ L h' ((D, oD) :: (zl, listOf (zv ++ [Value.ref D]).toArray (zk + 1)) :: (L + 1 + 1 + 1 + 1, oZ') :: (L + 1 + 1 + 1, oR) :: (L + 1 + 1, oH) :: (L + 1, oN) :: (rl, listOf us.toArray k) :: (ml, listOf mus.toArray mk) :: T) →
      AllLt D ((zl, listOf zv.toArray zk) :: (L + 1 + 1 + 1 + 1, oZ) :: (L + 1 + 1 + 1, oR) :: (L + 1 + 1, oH) :: (L + 1, oN) :: (rl, listOf us.toArray k) :: (ml, listOf mus.toArray mk) :: T) → Q .next { s with heap := h', toks := tk' }) :
    wpAny (model Challenge.rw_pe0179_01.row.prog w) (lawA L fa cd) (assign (.Name (Str.ofString "size") px) (lawEnv L fa cd) (.int size t'))
      (fun _ s₃ => wpAny (model Challenge.rw_pe0179_01.row.prog w) (lawA L fa cd) (execs movBody (lawEnv L fa cd)) Q (fun e s1 => lawE w L fa cd Ea Eb e s1) s₃)
      (fun e s1 => lawE w L fa cd Ea Eb e s1) s := by
  have hlen := o.len
  have hne : 0 < runs.length := List.length_pos_iff.mpr o.ne
  obtain ⟨z1, z2, z3, z4, z5, z6⟩ := hzo
  obtain ⟨r1, r2⟩ := hro
  revert hK
  k_fill
  intro hK
  k_with_none
  k_with "!eval ListComp" => (k_here; k_dflt (refine ListComp_X (by k_asm) (by with_unfolding_all rfl) (by decide) (by rfl) (by decide) ?_))
  have hF1 := fr1 (fr1 (fr1 hF hm3) (a := Str.ofString "met") (by rw [if_neg (by decide +kernel)]; exact hm2)) (a := Str.ofString "moves") (by rw [if_neg (by decide +kernel), if_neg (by decide +kernel)]; exact hm)
  clear hF
  have kdm := kdMark
  dsimp only [lawDef, defOf, lawEnv, lawA, lawE, movBody, forBody, List.drop, List.take, List.cons_append, List.nil_append]
  all_goals (try k_fold)
  k_with "call ref" => (k_here; k_dflt (refine' col_claim w mean mg mb _ _ _ (List.take (runs.length - 1) runs) ?h9 ?h8 _ _ ?h7 _ _ _ _ _ _ _ _ _ _ _ _ _ _ _ _ _ _ ?k1 ?k2 ?k3 ?k4 ?k5 ?k6 ?k7 ?k8 ?k9 ?k10 ?_; (case h9 => assumption); (case h8 => exact take_short hlen); (case h7 => exact hs1); (case k1 => k_asm); (case k2 => k_asm); (case k3 => k_asm); (case k4 => k_asm); (case k5 => k_asm); (case k6 => exact rfl); (case k7 => (intro p9 hp9; rw [List.mem_singleton.mp hp9]; k_mem)); (case k8 => trivial); (case k9 => decide +kernel); (case k10 => decide +kernel); intro t8 h8 tk8 F8 N8))
  k_steps
  rename Fr _ _ _ _ => kF
  rename News _ _ _ _ => kN
  refine srcX_ints (fun l => decide (l.fmod size = 0)) (fun ys pre => IntsAre ys pre) rfl kF kN (by k_mem) hIm (by rw [sizeLine_eq]; omega) rfl rfl .nil ?turn ?fin
  case turn =>
    clear kF kN
    intro r t ys pre hr hR2 I oI C oC D m₂ h tk E' hC hX F N off hne
    have off1 := off
    simp only [LCg.Off3] at off
    refine tst_one ?_
    k_steps
    · rename Int.fmod r size = 0 => hq
      refine cend_same (by assumption) (by assumption) (fun p hp => hp) off1 ⟨rfl, decide_eq_true hq, ?_⟩
      exact ints_snoc hR2
    · rename Int.fmod r size ≠ 0 => hq
      exact cend_same (by assumption) (by assumption) (fun p hp => hp) off1 ⟨rfl, decide_eq_false hq⟩
  case fin =>
    clear kF kN
    intro g ys hR2
    have hfl : (List.filter (fun l => decide (l.fmod size = 0)) met).length ≤ 100 := Nat.le_trans (List.length_filter_le _ _) hml
    have hys := hR2.length
    k_with "binaryOp Mult int int" => (refine mul_fitL ⟨by omega, by omega⟩ ?_)
    k_steps
    rename Fr _ _ _ _ => zF
    rename News _ _ _ _ => zN
    rename _ < _ ∧ _ < _ ∧ _ < _ ∧ _ < _ ∧ _ < _ ∧ _ < _ ∧ _ < _ ∧ _ < _ ∧ _ < _ ∧ AllLt _ T => zl9
    rename Obj.data _ = Data.cell (some (.int size t')) => zd
    have e1 := lastR_eq hne
    have e2 : List.take (runs.length - 1) runs = runs.dropLast := (List.dropLast_eq_take ..).symm
    have e3 : ∀ d : Addr, zv.toArray.push (Value.ref d) = (zv ++ [Value.ref d]).toArray := fun d => by simp
    rw [e1, e2, e3] at zN
    obtain ⟨-, -, q1, q2, q3, q4, q5, q6, q7, q8⟩ := zl9
    refine take1 zN ?_
    intro ob hob zN'
    have hob := (Prod.ext_iff.mp hob).2
    dsimp only at hob zN'
    refine hc _ ob _ _ _ _ zF ?_ zd ⟨_, _, _, hob⟩ (sub_news zN' ?_) ⟨q1, q2, q3, q4, q5, q6, q7, q8⟩
    · intro y hy
      rw [if_neg hy]
      exact congrFun (kept3' hm hm2 hm3) y
    · walk_at "sub"
end
end Mine
end
section
open PySem PySem.W PyProof.Rows
namespace Mine
theorem fresh_L17 : True := by
  k_with_none
  w_top off
  trivial
theorem movesF_snoc (runs met : List Int) (snd i : Nat) : movesF runs met snd (i + 1) = movesF runs met snd i ++ [moveD runs met snd (1 + (i : Int))] := by
  unfold movesF
  have e : rangeKs 1 (i + 1) = rangeKs 1 i ++ [1 + (i : Int)] := by simp only [rangeKs, List.range_succ, List.map_append, List.map_cons, List.map_nil]
  rw [e, List.map_append]; rfl
theorem movesF_len (runs met : List Int) (snd i : Nat) : (movesF runs met snd i).length = i := by unfold movesF; rw [List.length_map, rangeKs_length]
theorem move_snoc {add : List (Addr × Obj)} {zv : List Value} {ds : List Dat} (hD : DatAll add zv ds) {D : Addr} {oD : Obj} {a b c : Int} (ho : ∃ u1 u2 u3 : Tok, oD = ({ cls := .type "tuple", data := .seq #[.int a u1, .int b u2, .int c u3] } : Obj)) :
    DatAll ((D, oD) :: add) (zv ++ [.ref D]) (ds ++ [.tuple [.int a, .int b, .int c]]) := by
  refine cps ?_
  intro C9 hC9
  obtain ⟨u1, u2, u3, rfl⟩ := ho
  refine hC9 ?_
  clear hC9 C9
  refine (hD.mono (fun p hp => List.mem_cons_of_mem _ hp)).append (.one ?_)
  exact .tuple (List.mem_cons_self ..) (.cons (.int _ _) (.cons (.int _ _) (.cons (.int _ _) .nil)))
theorem seg5 (w : World) (mean : ExcName → Option Value) (mg mb : Str → Option Value) (h₀ : Heap) (L fa : Nat) (cd : Value) (m : Str → Option Value) (s : Shared) (Q : Flow → Shared → Prop) (Ea Eb : Value → Shared → Prop) (rest : List Stmt)
    (rl ml zl k mk snd n : Nat) (us mus : List Value) (runs met : List Int) (bh tp : Int) (tb tt : Tok) (oZ oR oH oN : Obj) (cZ : Option Value) (T : List (Addr × Obj))
    (hB : Below callerA h₀ [] h₀) (hK : (hd.heap_39 w.params).In h₀) (hT : Top topProg LooseL mean mg mb h₀) (hch : CodeHd h₀ 176 172)
    (hF : Fr h₀ L s.heap m) (hm : m (Str.ofString "moves") = some (.ref zl)) (hm2 : m (Str.ofString "met") = some (.ref ml)) (hm3 : m (Str.ofString "behind") = some (.int bh tb)) (hm4 : m (Str.ofString "top") = some (.int tp tt))
    (hN : News h₀ L s.heap ((zl, W.listOf #[] 0) :: (L + 1 + 1 + 1 + 1, oZ) :: (L + 1 + 1 + 1, oR) :: (L + 1 + 1, oH) :: (L + 1, oN) :: (rl, listOf us.toArray k) :: (ml, listOf mus.toArray mk) :: T))
    (hZ : oZ.data = .cell cZ) (hNn : oN.data = .cell (some (.ref rl))) (o : RunsOk runs) (hI : IntsAre us runs) (hIm : IntsAre mus met) (hml : met.length ≤ 100) (hbh : bh = behindF runs snd) (htp : tp = (n : Int)) (hn : n ≤ 10)
    (hO : OwnOff T [zl, L + 1 + 1 + 1 + 1]) (hzo : zl ≠ L + 1 + 1 + 1 + 1 ∧ zl ≠ L + 1 + 1 + 1 ∧ zl ≠ L + 1 + 1 ∧ zl ≠ L + 1 ∧ zl ≠ rl ∧ zl ≠ ml) (hro : rl ≠ L + 1 + 1 + 1 + 1 ∧ ml ≠ L + 1 + 1 + 1 + 1)
    (hc : ∀ (zk : Nat) (zv : List Value) (oZ' : Obj) (cZ' : Option Value) (add : List (Addr × Obj)) (M' : Str → Option Value) (h' : Heap) (tk' : Nat), Fr h₀ L h' M' → (∀ y, y ≠ Str.ofString "near" → M' y = m y) → oZ'.data = .cell cZ' → DatAll add zv (movesF runs met snd n) → OwnOff add [zl, L + 1 + 1 + 1 + 1] →
      News h₀ L h' ((zl, listOf zv.toArray zk) :: (L + 1 + 1 + 1 + 1, oZ') :: (L + 1 + 1 + 1, oR) :: (L + 1 + 1, oH) :: (L + 1, oN) :: (rl, listOf us.toArray k) :: (ml, listOf mus.toArray mk) :: (T ++ add)) →
      wpAny (model Challenge.rw_pe0179_01.row.prog w) (lawA L fa cd) (execs rest (lawEnv L fa cd)) Q (fun e s1 => lawE w L fa cd Ea Eb e s1) { s with heap := h', toks := tk' }) :
    wpAny (model Challenge.rw_pe0179_01.row.prog w) (lawA L fa cd) (execs ((lawDef.body.drop 14).take 1 ++ rest) (lawEnv L fa cd)) Q (fun e s1 => lawE w L fa cd Ea Eb e s1) s := by
  have hK0 := hK
  revert hK
  k_fill
  intro hK
  k_with_none
  have hF1 := fr1 hF hm4
  clear hF
  have kdm := kdMark
  dsimp only [lawDef, defOf, lawEnv, lawA, lawE, List.drop, List.take, List.cons_append, List.nil_append]
  all_goals (try k_fold)
  refine wpAny_execs_cons ?_
  refine For_turns hF1 ?_
  have hb1 : tp ≤ 10 := by omega
  have hb2 : 0 ≤ tp := by omega
  k_steps
  rename IsRange _ _ _ _ _ _ _ _ => kR
  rename Fr _ _ _ _ => kF
  rename News _ _ _ _ => kN
  rw [kept0 hm4] at kF
  refine range_loop (A := lawA L fa cd) (env := lawEnv L fa cd) (body := movBody) (n := n) (fun i M nx => ∃ (zk : Nat) (zv : List Value) (oZ' : Obj) (cZ' : Option Value) (add : List (Addr × Obj)), nx = (zl, listOf zv.toArray zk) :: (L + 1 + 1 + 1 + 1, oZ') :: (L + 1 + 1 + 1, oR) :: (L + 1 + 1, oH) :: (L + 1, oN) :: (rl, listOf us.toArray k) :: (ml, listOf mus.toArray mk) :: (T ++ add) ∧ oZ'.data = .cell cZ' ∧ (∀ y, y ≠ Str.ofString "near" → M y = m y) ∧ DatAll add zv (movesF runs met snd i) ∧ OwnOff add [zl, L + 1 + 1 + 1 + 1]) rfl kR ?_ ?_ kF kN ?_ ?_ ?_
  · rw [htp]
    have hN : ∀ k : Nat, k ≤ 10 → Builtin.Range.small 1 ((k : Int) + 1) 1 = true := by decide +kernel
    exact hN n hn
  · rw [htp, rangeSize_nat]; omega
  · exact ⟨0, [], oZ, cZ, [], by simp, hZ, fun _ _ => rfl, .nil, fun p hp => by cases hp⟩
  · rintro i t' M nx I oI h tk hi hX9
    refine cps ?_
    intro C9 hC9
    obtain ⟨zk, zv, oZ', cZ', add, rfl, hZ', hM, hD, hOa⟩ := hX9
    refine hC9 ?_
    clear hC9 C9
    rintro F N hIo
    have hzl : zv.length = i := by have := hD.length; rw [movesF_len] at this; exact this
    have jz := hIo (zl, listOf zv.toArray zk) (by first | walk_at "subm" | simp)
    have j1 := hIo (L + 1 + 1 + 1 + 1, oZ') (by first | walk_at "subm" | simp)
    refine movTurn w mean mg mb h₀ L fa cd M _ _ Ea Eb _ rl ml zl k mk zk us mus zv runs met (1 + (i : Int)) bh t' tb oZ' oR oH oN cZ' ((I, oI) :: (T ++ add)) hB hK0 hT hch F ((hM _ (by decide +kernel)).trans (hm)) ((hM _ (by decide +kernel)).trans (hm2)) ((hM _ (by decide +kernel)).trans (hm3)) (sub_news N ?_) hZ' hNn o hI hIm hml (by omega) (by omega) (by omega) ?_ hzo hro ?_
    · walk_at "sub"
    · refine fmC ?_ ?_
      · exact fmC (Ne.symm jz) (fmC (Ne.symm j1) fmN)
      · intro p hp
        exact ownOff_app hO hOa p hp
    intro D oD oZ2 M2 h2 tk2 F2 hM2 hZ2 hoD N2 hlt
    refine cps ?_
    intro C9 hC9
    obtain ⟨q1, q2, q3, q4, q5, q6, q7, q8⟩ := hlt
    refine hC9 ?_
    clear hC9 C9
    obtain ⟨q8, -⟩ := q8
    dsimp only at q1 q2 q3 q4 q5 q6 q7 q8
    show NextAt _ _ _ _ _ _ _
    refine ⟨h2, tk2, M2, (zl, listOf (zv ++ [Value.ref D]).toArray (zk + 1)) :: (L + 1 + 1 + 1 + 1, oZ2) :: (L + 1 + 1 + 1, oR) :: (L + 1 + 1, oH) :: (L + 1, oN) :: (rl, listOf us.toArray k) :: (ml, listOf mus.toArray mk) :: (T ++ (D, oD) :: add), rfl, F2, sub_news N2 ?_, ?_, _, _, oZ2, _, _, rfl, hZ2, ?_, ?_, ?_⟩
    · walk_at "sub"
    · intro p hp
      simp only [List.mem_cons, List.mem_append] at hp
      rcases hp with rfl | rfl | rfl | rfl | rfl | rfl | rfl | hp | rfl | hp
      · exact jz
      · exact j1
      · exact hIo (L + 1 + 1 + 1, oR) (by first | walk_at "subm" | simp)
      · exact hIo (L + 1 + 1, oH) (by first | walk_at "subm" | simp)
      · exact hIo (L + 1, oN) (by first | walk_at "subm" | simp)
      · exact hIo (rl, listOf us.toArray k) (by first | walk_at "subm" | simp)
      · exact hIo (ml, listOf mus.toArray mk) (by first | walk_at "subm" | simp)
      · exact hIo p (by first | walk_at "subm" | simp [hp])
      · exact Nat.ne_of_gt q8
      · exact hIo p (by first | walk_at "subm" | simp [hp])
    · intro y hy
      rw [hM2 y hy, hM y hy]
    · rw [movesF_snoc]
      have := move_snoc hD (D := D) hoD
      rw [hbh] at this
      exact this
    · refine fmC ?_ ?_
      · exact fmC (Nat.ne_of_gt q1) (fmC (Nat.ne_of_gt q2) fmN)
      · intro p hp
        exact hOa p hp
  · rintro M nx h tk F N hX9
    refine cps ?_
    intro C9 hC9
    obtain ⟨zk, zv, oZ', cZ', add, rfl, hZ', hM, hD, hOa⟩ := hX9
    refine hC9 ?_
    clear hC9 C9
    exact hc zk zv oZ' cZ' add M h tk F hM hZ' hD hOa N
end Mine
end
section
open PySem PySem.W PyProof.Rows PySem.Calls PyProof.Rows.LCg
namespace Mine
theorem fresh_LT : True := by
  k_with_none
  w_top off
  trivial
noncomputable abbrev Trip : Type := Int × Int × Int
noncomputable def tripD (q : Trip) : Dat := .tuple [.int q.1, .int q.2.1, .int q.2.2]
theorem trip_of {add : List (Addr × Obj)} {us : List Value} {ms : List Trip} (hD : DatAll add us (ms.map tripD)) {i : Nat} {v : Value} (hv : us[i]? = some v) :
    ∃ (h : i < ms.length) (T : Addr) (n : Nat) (t1 t2 t3 : Tok), v = .ref T ∧ (T, ({ cls := .type "tuple", data := .seq #[.int ms[i].1 t1, .int ms[i].2.1 t2, .int ms[i].2.2 t3] n } : Obj)) ∈ add := by
  obtain ⟨hi, hd⟩ := dget hD hv
  refine ⟨hi, ?_⟩
  obtain ⟨T, v1, v2, v3, n, rfl, hm, h1, h2, h3⟩ := dtup3 hd
  obtain ⟨t1, rfl⟩ := din_int h1
  obtain ⟨t2, rfl⟩ := din_int h2
  obtain ⟨t3, rfl⟩ := din_int h3
  exact ⟨T, n, t1, t2, t3, rfl, hm⟩
theorem trip_snoc {add T : List (Addr × Obj)} {zv : List Value} {ds : List Trip} (hD : DatAll add zv (ds.map tripD)) {D : Addr} {n : Nat} {q : Trip} {u1 u2 u3 : Tok} (hm : (D, ({ cls := .type "tuple", data := .seq #[.int q.1 u1, .int q.2.1 u2, .int q.2.2 u3] n } : Obj)) ∈ T) (hs : ∀ p ∈ add, p ∈ T) :
    DatAll T (zv ++ [.ref D]) ((ds ++ [q]).map tripD) := by
  rw [List.map_append]
  refine (hD.mono hs).append (.one ?_)
  exact .tuple hm (.cons (.int _ _) (.cons (.int _ _) (.cons (.int _ _) .nil)))
section
variable {prog : Program} {w : World} {A : Around} {E : Value → Shared → Prop} {s : Shared} {h₀ : Heap} {L : Addr} {m : Str → Option Value} {env : Env}
theorem srcX_trips {x : Str} {px : Pos} {elt : Expr} {ifs : List Expr} {scope : Scope} {cl : List (Str × Addr)} {Fin : Shared → List Value → List (Addr × Obj) → Prop} {ax : Addr} {us : List Value} {ms : List Trip} {n : Nat} {nw T : List (Addr × Obj)} {s₁ : Shared} (p : Trip → Bool) (R : List Value → List Trip → Prop)
    (hh : A.handled = none) (F : Fr h₀ L s₁.heap m) (N : News h₀ L s₁.heap nw) (hm : (ax, listOf us.toArray n) ∈ nw) (hD : DatAll T us (ms.map tripD)) (hsz : ms.length ≤ sizeLine) (hkind : scope.kind = .function) (hx : scope.names.lookup x = some .local) (h0 : R [] [])
    (turn : ∀ q Tq nT t1 t2 t3 ys pre, q ∈ ms → (Tq, ({ cls := .type "tuple", data := .seq #[.int q.1 t1, .int q.2.1 t2, .int q.2.2 t3] nT } : Obj)) ∈ T → R ys pre → TurnS prog w A h₀ L m env elt ifs scope cl s₁ nw (fun m₂ => m₂ x = some (.ref Tq)) ys (fun y => p q = true ∧ R (ys ++ [y]) (pre ++ [q])) (p q = false))
    (fin : ∀ g ys, R ys (ms.filter p) → Fin { s₁ with heap := g } ys nw) : SrcX prog w A h₀ L m env elt (.Name x px) ifs scope cl Fin (.ref ax) s₁ := by
  have hl := hD.length
  rw [List.length_map] at hl
  have hsz' : us.toArray.size = ms.length := by rw [List.size_toArray, hl]
  refine srcX_list (its := us.toArray) (nw := nw) (fun _ v m₂ => m₂ x = some v) (fun i ys nw' => nw' = nw ∧ R ys ((ms.take i).filter p)) hh F N (fun i ys nw' h => .inr ⟨_, h.1 ▸ hm, rfl, _, rfl⟩) (by rw [hsz']; exact hsz) ⟨rfl, by simpa using h0⟩
    (fun g I => takes_name hkind hx) (fun g => ?_) (fun g ys nw' h => ?_)
  · rintro i v ys nw' I oI C oC D m₂ h tk E' hi hv ⟨rfl, hR⟩ hC hX F₁ N₁ off hne
    have hv' : us[i]? = some v := by simpa using hv
    refine cps ?_
    intro C9 hC9
    obtain ⟨hi', Tq, nT, t1, t2, t3, rfl, hmem⟩ := trip_of hD hv'
    refine hC9 ?_
    clear hC9 C9
    have hq : ms[i]? = some ms[i] := List.getElem?_eq_getElem hi'
    refine wpAny_mono (turn ms[i] Tq nT t1 t2 t3 ys _ (List.getElem_mem hi') hmem hR I oI C oC D m₂ h tk E' hC hX F₁ N₁ off hne) (fun ok s₃ z => ?_) fun _ _ e => e
    cases ok with
    | true =>
      simp only [if_true] at z ⊢
      refine wpAny_mono z (fun y s₄ ⟨h', tk', nw', e, F', N', off', e2, hp, hR'⟩ => ⟨h', tk', nw', e, F', N', off', e2, ?_⟩) fun _ _ e => e
      rw [filtq_yes hq hp]; exact hR'
    | false =>
      simp only [Bool.false_eq_true, if_false] at z ⊢
      refine cps ?_
      intro C9 hC9
      obtain ⟨h', tk', nw', e, F', N', off', e2, hp⟩ := z
      refine hC9 ?_
      clear hC9 C9
      refine ⟨h', tk', nw', e, F', N', off', e2, ?_⟩
      rw [filtq_no hq hp]; exact hR
  · obtain ⟨rfl, hR⟩ := h
    rw [hsz', List.take_length] at hR
    exact fin g ys hR
theorem srcX_trips3 {x x₂ x₃ : Str} {px px₂ px₃ tp : Pos} {tkk} {elt : Expr} {ifs : List Expr} {scope : Scope} {cl : List (Str × Addr)} {Fin : Shared → List Value → List (Addr × Obj) → Prop} {ax : Addr} {us : List Value} {ms : List Trip} {n : Nat} {nw T : List (Addr × Obj)} {s₁ : Shared} (out : Trip → Trip)
    (hh : A.handled = none) (F : Fr h₀ L s₁.heap m) (N : News h₀ L s₁.heap nw) (hm : (ax, listOf us.toArray n) ∈ nw) (hD : DatAll T us (ms.map tripD)) (hTn : ∀ p ∈ T, p ∈ nw) (hsz : ms.length ≤ sizeLine) (hkind : scope.kind = .function) (hx : scope.names.lookup x = some .local) (hx₂ : scope.names.lookup x₂ = some .local) (hx₃ : scope.names.lookup x₃ = some .local) (hxx : x ≠ x₂) (hxx₃ : x ≠ x₃) (hxx₂₃ : x₂ ≠ x₃)
    (turn : ∀ q t1 t2 t3 ys (pre : List Trip) add I oI C oC D m₂ h tk (E' : Value → Shared → Prop), q ∈ ms → DatAll add ys (pre.map tripD) → NsObj oC m₂ → m₂ x = some (.int q.1 t1) → m₂ x₂ = some (.int q.2.1 t2) → m₂ x₃ = some (.int q.2.2 t3) → Fr h₀ L h m → News h₀ L h ((I, oI) :: (C, oC) :: (D, lst ys) :: (nw ++ add)) → Off3 I C D (nw ++ add) → ((@Ne Nat I C) ∧ (@Ne Nat I D) ∧ (@Ne Nat C D)) →
      TstX prog w A ifs (compEnvC scope cl C env) (fun ok s₃ => if ok = true then wpAny (model prog w) A (eval elt (compEnvC scope cl C env)) (fun y s₄ => CEnd h₀ L m { s₁ with heap := h, toks := tk } I oI C oC D (lst ys) (fun nw' => ∃ add', nw' = nw ++ add' ∧ DatAll add' (ys ++ [y]) ((pre ++ [out q]).map tripD)) s₄) E' s₃
        else False) E' { s₁ with heap := h, toks := tk })
    (fin : ∀ g ys add, DatAll add ys ((ms.map out).map tripD) → Fin { s₁ with heap := g } ys (nw ++ add)) : SrcX prog w A h₀ L m env elt (.Tuple [.Name x px, .Name x₂ px₂, .Name x₃ px₃] tkk tp) ifs scope cl Fin (.ref ax) s₁ := by
  have hl := hD.length
  rw [List.length_map] at hl
  have hsz' : us.toArray.size = ms.length := by rw [List.size_toArray, hl]
  refine srcX_list (its := us.toArray) (nw := nw) (fun i _ m₂ => ∃ v₁ v₂ v₃, (∃ q t1 t2 t3, ms[i]? = some q ∧ v₁ = .int q.1 t1 ∧ v₂ = .int q.2.1 t2 ∧ v₃ = .int q.2.2 t3) ∧ m₂ x = some v₁ ∧ m₂ x₂ = some v₂ ∧ m₂ x₃ = some v₃) (fun i ys nw' => ∃ add, nw' = nw ++ add ∧ DatAll add ys (((ms.take i).map out).map tripD)) hh F N
    (fun i ys nw' h => by obtain ⟨add, rfl, _⟩ := h; exact .inr ⟨_, List.mem_append_left _ hm, rfl, _, rfl⟩) (by rw [hsz']; exact hsz) ⟨[], by simp, .nil⟩
    (fun g I => takes_three (Y := fun i v₁ v₂ v₃ => ∃ q t1 t2 t3, ms[i]? = some q ∧ v₁ = .int q.1 t1 ∧ v₂ = .int q.2.1 t2 ∧ v₃ = .int q.2.2 t3) hh hkind hx hx₂ hx₃ hxx hxx₃ hxx₂₃ ?_) (fun g => ?_) (fun g ys nw' h => ?_)
  · rintro i v ys nw' hi hv ⟨add, rfl, hR⟩
    have hv' : us[i]? = some v := by simpa using hv
    refine cps ?_
    intro C9 hC9
    obtain ⟨hi', Tq, nT, t1, t2, t3, rfl, hmem⟩ := trip_of hD hv'
    refine hC9 ?_
    clear hC9 C9
    exact ⟨Tq, _, _, _, _, _, rfl, List.mem_append_left _ (hTn _ hmem), rfl, rfl, ms[i], t1, t2, t3, List.getElem?_eq_getElem hi', rfl, rfl, rfl⟩
  · rintro i v ys nw' I oI C oC D m₂ h tk E' hi hv ⟨add, rfl, hR⟩ hC hX9
    refine cps ?_
    intro C9 hC9
    obtain ⟨v₁, v₂, v₃, ⟨q, t1, t2, t3, hq, rfl, rfl, rfl⟩, hX1, hX2, hX3⟩ := hX9
    refine hC9 ?_
    clear hC9 C9
    rintro F₁ N₁ off hne
    refine wpAny_mono (turn q t1 t2 t3 ys _ add I oI C oC D m₂ h tk E' (List.mem_of_getElem? hq) hR hC hX1 hX2 hX3 F₁ N₁ off hne) (fun ok s₃ z => ?_) fun _ _ e => e
    cases ok with
    | true =>
      simp only [if_true] at z ⊢
      refine wpAny_mono z (fun y s₄ ⟨h', tk', nw', e, F', N', off', add', e2, hR'⟩ => ⟨h', tk', nw', e, F', N', off', add', e2, ?_⟩) fun _ _ e => e
      rw [List.take_add_one, hq, Option.toList_some, List.map_append]
      exact hR'
    | false =>
      simp only [Bool.false_eq_true, if_false] at z
  · obtain ⟨add, rfl, hR⟩ := h
    rw [hsz', List.take_length] at hR
    exact fin g ys add hR
end
theorem trips_ok (ms : List Trip) : ∀ d ∈ ms.map tripD, kqdOk 8 d = true := by
  intro d hd
  obtain ⟨q, _, rfl⟩ := List.mem_map.mp hd
  simp [tripD, kqdOk]
end Mine
end
section
open PySem PySem.W PyProof.Rows
namespace Mine
theorem fresh_L18 : True := by
  k_with_none
  w_top off
  trivial
section
theorem seg6a (w : World) (mean : ExcName → Option Value) (mg mb : Str → Option Value) (h₀ : Heap) (L fa : Nat) (cd : Value) (m : Str → Option Value) (s : Shared) (Q : Flow → Shared → Prop) (Ea Eb : Value → Shared → Prop) (rest : List Stmt)
    (zl zk : Nat) (zv : List Value) (ms : List Trip) (W1 W2 : WsT) (c1 c2 : List Int) (T : List (Addr × Obj))
    (hB : Below callerA h₀ [] h₀) (hK : (hd.heap_39 w.params).In h₀) (hT : Top topProg LooseL mean mg mb h₀) (hch : CodeHd h₀ 176 172)
    (hF : Fr h₀ L s.heap m) (hm : m (Str.ofString "first") = some (.ref W1.x)) (hm2 : m (Str.ofString "last") = some (.ref W2.x)) (hm3 : m (Str.ofString "moves") = some (.ref zl))
    (hN : News h₀ L s.heap (W1.objs w.params ++ (W2.objs w.params ++ (zl, listOf zv.toArray zk) :: T)))
    (hD : DatAll T zv (ms.map tripD)) (hml : ms.length ≤ 20) (o1 : WsOk W1 c1) (o2 : WsOk W2 c2) (hb1 : W1.b ≤ 50) (hb2 : W2.b ≤ 50) (hl1 : c1.length ≤ 50) (hl2 : c2.length ≤ 50)
    (hEq : neF c1 W1.b W1.nt c2 W2.b W2.nt (rangeKs 1 ((if longF c2 W2.b > longF c1 W1.b then longF c2 W2.b else longF c1 W1.b) + 1 + 1 - 1).toNat) = (ms.filter fun q => decide (q.2.1 ≠ q.2.2)).map tripD)
    (hc : ∀ (h' : Heap) (tk' : Nat), Fr h₀ L h' m → News h₀ L h' (W1.objs w.params ++ (W2.objs w.params ++ (zl, listOf zv.toArray zk) :: T)) →
      wpAny (model Challenge.rw_pe0179_01.row.prog w) (lawA L fa cd) (execs rest (lawEnv L fa cd)) Q (fun e s1 => lawE w L fa cd Ea Eb e s1) { s with heap := h', toks := tk' }) :
    wpAny (model Challenge.rw_pe0179_01.row.prog w) (lawA L fa cd) (execs ((lawDef.body.drop 15).take 1 ++ rest) (lawEnv L fa cd)) Q (fun e s1 => lawE w L fa cd Ea Eb e s1) s := by
  revert hK
  k_fill
  intro hK
  k_with_none
  k_with "!eval ListComp" => (k_here; k_dflt (refine ListComp_X (by k_asm) (by with_unfolding_all rfl) (by decide) (by rfl) (by decide) ?_))
  have hF1 := fr1 (fr1 (fr1 hF hm3) (a := Str.ofString "last") (by rw [if_neg (by decide +kernel)]; exact hm2)) (a := Str.ofString "first") (by rw [if_neg (by decide +kernel), if_neg (by decide +kernel)]; exact hm)
  clear hF
  have kdm := kdMark
  dsimp only [WsT.objs, List.cons_append, List.nil_append] at hN
  dsimp only [lawDef, defOf, lawEnv, lawA, lawE, List.drop, List.take, List.cons_append, List.nil_append]
  all_goals (try k_fold)
  k_with "call ref" => (k_here; k_dflt (refine' ne_claim w mean mg mb W1 W2 c1 c2 o1 o2 hb1 hb2 hl1 hl2 _ _ _ _ _ _ _ _ _ _ _ _ _ _ _ _ _ _ ?k1 ?k2 ?k3 ?k4 ?k5 ?k6 ?k7 ?k8 ?k9 ?_; (case k1 => k_asm); (case k2 => k_asm); (case k3 => k_asm); (case k4 => k_asm); (case k5 => k_asm); (case k6 => exact rfl); (case k7 => (walk_at "sub")); (case k8 => decide +kernel); (case k9 => decide +kernel); intro l8 us8 n8 add8 h8 tk8 F8 N8 D8; simp only [List.cons_append] at N8))
  k_steps
  rename Fr _ _ _ _ => kF
  rename News _ _ _ _ => kN
  refine srcX_trips (T := T) (fun q => decide (q.2.1 ≠ q.2.2)) (fun ys pre => DatAll T ys (pre.map tripD)) rfl kF kN (by k_mem) hD (by rw [sizeLine_eq]; omega) rfl rfl .nil ?turn ?fin
  case turn =>
    clear kF
    intro q Tq nT t1 t2 t3 ys pre hq hmem hR2 I oI C oC D m₂ h tk E' hC hX F N off hne
    have hN3 := news_app (own := [(Tq, ({ cls := .type "tuple", data := .seq #[.int q.1 t1, .int q.2.1 t2, .int q.2.2 t3] nT } : Obj))]) N (by intro p hp; rw [List.mem_singleton.mp hp]; simp [hmem])
    simp only [List.cons_append, List.nil_append] at hN3
    clear N kN
    refine tst_one ?_
    k_steps
    · rename q.2.1 ≠ q.2.2 => hq1
      exact cend_same (by assumption) hN3 (fun p hp => List.mem_cons_of_mem _ hp) off ⟨rfl, decide_eq_true hq1, trip_snoc hR2 hmem (fun _ h => h)⟩
    · rename q.2.1 = q.2.2 => hq1
      exact cend_same (by assumption) hN3 (fun p hp => List.mem_cons_of_mem _ hp) off ⟨rfl, decide_eq_false (fun h => h hq1)⟩
  case fin =>
    clear kF kN
    intro g ys hR2
    unfold LCg.FinE
    intro D9 h9 tk9 F9 N9 o9
    refine kqd_ne (xs := us8) (ys := ys) N9 (ma := List.mem_cons_of_mem _ (List.mem_cons_self ..)) rfl rfl D8 ?_ (mb := List.mem_cons_self ..) rfl rfl hR2 ?_ ?_ ?_ (lawU L fa cd) ?_
    · intro p hp; (first | walk_at "subm" | simp [hp])
    · intro p hp; (first | walk_at "subm" | simp [hp])
    · rw [hEq]; exact trips_ok _
    · exact trips_ok _
    · rw [hEq]
      simp only [decide_true, Bool.not_true]
      have hN9 := sub_news N9 (l' := W1.objs w.params ++ (W2.objs w.params ++ (zl, listOf zv.toArray zk) :: T)) (by walk_at "sub")
      clear N9 D8 hEq hR2
      k_steps
      dsimp only
      rename Fr _ _ _ _ => zF
      rw [kept3' hm hm2 hm3] at zF
      exact hc _ _ zF hN9
end
end Mine
end
section
open PySem PySem.W PyProof.Rows
namespace Mine
theorem fresh_L19 : True := by
  k_with_none
  w_top off
  trivial
section
theorem seg6b (w : World) (mean : ExcName → Option Value) (mg mb : Str → Option Value) (h₀ : Heap) (L fa : Nat) (cd : Value) (m : Str → Option Value) (s : Shared) (Q : Flow → Shared → Prop) (Ea Eb : Value → Shared → Prop) (rest : List Stmt)
    (zl zk : Nat) (zv : List Value) (ms : List Trip) (W1 W2 : WsT) (c1 c2 : List Int) (T : List (Addr × Obj))
    (hB : Below callerA h₀ [] h₀) (hK : (hd.heap_39 w.params).In h₀) (hT : Top topProg LooseL mean mg mb h₀) (hch : CodeHd h₀ 176 172)
    (hF : Fr h₀ L s.heap m) (hm : m (Str.ofString "first") = some (.ref W1.x)) (hm2 : m (Str.ofString "last") = some (.ref W2.x)) (hm3 : m (Str.ofString "moves") = some (.ref zl))
    (hN : News h₀ L s.heap (W1.objs w.params ++ (W2.objs w.params ++ (zl, listOf zv.toArray zk) :: T)))
    (hD : DatAll T zv (ms.map tripD)) (hml : ms.length ≤ 20) (o1 : WsOk W1 c1) (o2 : WsOk W2 c2) (hb1 : W1.b ≤ 50) (hb2 : W2.b ≤ 50) (hl1 : c1.length ≤ 50) (hl2 : c2.length ≤ 50)
    (hEq : nlF c1 W1.b W1.nt c2 W2.b W2.nt (rangeKs 1 ((if longF c2 W2.b > longF c1 W1.b then longF c2 W2.b else longF c1 W1.b) + 1 + 1 - 1).toNat) = (ms.filter fun q => decide (q.2.1 = q.2.2)).map tripD)
    (hc : ∀ (h' : Heap) (tk' : Nat), Fr h₀ L h' m → News h₀ L h' (W1.objs w.params ++ (W2.objs w.params ++ (zl, listOf zv.toArray zk) :: T)) →
      wpAny (model Challenge.rw_pe0179_01.row.prog w) (lawA L fa cd) (execs rest (lawEnv L fa cd)) Q (fun e s1 => lawE w L fa cd Ea Eb e s1) { s with heap := h', toks := tk' }) :
    wpAny (model Challenge.rw_pe0179_01.row.prog w) (lawA L fa cd) (execs ((lawDef.body.drop 16).take 1 ++ rest) (lawEnv L fa cd)) Q (fun e s1 => lawE w L fa cd Ea Eb e s1) s := by
  revert hK
  k_fill
  intro hK
  k_with_none
  k_with "!eval ListComp" => (k_here; k_dflt (refine ListComp_X (by k_asm) (by with_unfolding_all rfl) (by decide) (by rfl) (by decide) ?_))
  have hF1 := fr1 (fr1 (fr1 hF hm3) (a := Str.ofString "last") (by rw [if_neg (by decide +kernel)]; exact hm2)) (a := Str.ofString "first") (by rw [if_neg (by decide +kernel), if_neg (by decide +kernel)]; exact hm)
  clear hF
  have kdm := kdMark
  dsimp only [WsT.objs, List.cons_append, List.nil_append] at hN
  dsimp only [lawDef, defOf, lawEnv, lawA, lawE, List.drop, List.take, List.cons_append, List.nil_append]
  all_goals (try k_fold)
  k_with "call ref" => (k_here; k_dflt (refine' nl_claim w mean mg mb W1 W2 c1 c2 o1 o2 hb1 hb2 hl1 hl2 _ _ _ _ _ _ _ _ _ _ _ _ _ _ _ _ _ _ ?k1 ?k2 ?k3 ?k4 ?k5 ?k6 ?k7 ?k8 ?k9 ?_; (case k1 => k_asm); (case k2 => k_asm); (case k3 => k_asm); (case k4 => k_asm); (case k5 => k_asm); (case k6 => exact rfl); (case k7 => (walk_at "sub")); (case k8 => decide +kernel); (case k9 => decide +kernel); intro l8 us8 n8 add8 h8 tk8 F8 N8 D8; simp only [List.cons_append] at N8))
  k_steps
  rename Fr _ _ _ _ => kF
  rename News _ _ _ _ => kN
  refine srcX_trips (T := T) (fun q => decide (q.2.1 = q.2.2)) (fun ys pre => DatAll T ys (pre.map tripD)) rfl kF kN (by k_mem) hD (by rw [sizeLine_eq]; omega) rfl rfl .nil ?turn ?fin
  case turn =>
    clear kF
    intro q Tq nT t1 t2 t3 ys pre hq hmem hR2 I oI C oC D m₂ h tk E' hC hX F N off hne
    have hN3 := news_app (own := [(Tq, ({ cls := .type "tuple", data := .seq #[.int q.1 t1, .int q.2.1 t2, .int q.2.2 t3] nT } : Obj))]) N (by intro p hp; rw [List.mem_singleton.mp hp]; simp [hmem])
    simp only [List.cons_append, List.nil_append] at hN3
    clear N kN
    refine tst_one ?_
    k_steps
    · rename q.2.1 = q.2.2 => hq1
      exact cend_same (by assumption) hN3 (fun p hp => List.mem_cons_of_mem _ hp) off ⟨rfl, decide_eq_true hq1, trip_snoc hR2 hmem (fun _ h => h)⟩
    · rename q.2.1 ≠ q.2.2 => hq1
      exact cend_same (by assumption) hN3 (fun p hp => List.mem_cons_of_mem _ hp) off ⟨rfl, decide_eq_false hq1⟩
  case fin =>
    clear kF kN
    intro g ys hR2
    unfold LCg.FinE
    intro D9 h9 tk9 F9 N9 o9
    refine kqd_ne (xs := us8) (ys := ys) N9 (ma := List.mem_cons_of_mem _ (List.mem_cons_self ..)) rfl rfl D8 ?_ (mb := List.mem_cons_self ..) rfl rfl hR2 ?_ ?_ ?_ (lawU L fa cd) ?_
    · intro p hp; (first | walk_at "subm" | simp [hp])
    · intro p hp; (first | walk_at "subm" | simp [hp])
    · rw [hEq]; exact trips_ok _
    · exact trips_ok _
    · rw [hEq]
      simp only [decide_true, Bool.not_true]
      have hN9 := sub_news N9 (l' := W1.objs w.params ++ (W2.objs w.params ++ (zl, listOf zv.toArray zk) :: T)) (by walk_at "sub")
      clear N9 D8 hEq hR2
      k_steps
      dsimp only
      rename Fr _ _ _ _ => zF
      rw [kept3' hm hm2 hm3] at zF
      exact hc _ _ zF hN9
end
end Mine
end
section
open PySem PySem.W PyProof.Rows
namespace Mine
theorem fresh_L20 : True := by
  k_with_none
  w_top off
  trivial
theorem abs_led {P : Prop} {g h : Heap} {L : Addr} {l : List (Addr × Obj)} (N : News g L h l) (k : ∀ nw, nw = l → News g L h nw → P) : P := k l rfl N
theorem trip_snoc' {add : List (Addr × Obj)} {zv : List Value} {ds : List Trip} (hD : DatAll add zv (ds.map tripD)) {D : Addr} {ob : Obj} {q : Trip} (ho : ∃ u1 u2 u3 : Tok, ob = ({ cls := .type "tuple", data := .seq #[.int q.1 u1, .int q.2.1 u2, .int q.2.2 u3] } : Obj)) :
    DatAll ((D, ob) :: add) (zv ++ [.ref D]) ((ds ++ [q]).map tripD) := by
  obtain ⟨u1, u2, u3, rfl⟩ := ho
  exact trip_snoc hD (List.mem_cons_self ..) (fun p hp => List.mem_cons_of_mem _ hp)
noncomputable def swapT (q : Trip) : Trip := (q.1, q.2.2, q.2.1)
section
theorem seg6c (w : World) (mean : ExcName → Option Value) (mg mb : Str → Option Value) (h₀ : Heap) (L fa : Nat) (cd : Value) (m : Str → Option Value) (s : Shared) (Q : Flow → Shared → Prop) (Ea Eb : Value → Shared → Prop) (rest : List Stmt)
    (zl zk : Nat) (zv : List Value) (ms : List Trip) (W1 W2 : WsT) (c1 c2 : List Int) (T : List (Addr × Obj))
    (hB : Below callerA h₀ [] h₀) (hK : (hd.heap_39 w.params).In h₀) (hT : Top topProg LooseL mean mg mb h₀) (hch : CodeHd h₀ 176 172)
    (hF : Fr h₀ L s.heap m) (hm : m (Str.ofString "first") = some (.ref W1.x)) (hm2 : m (Str.ofString "last") = some (.ref W2.x)) (hm3 : m (Str.ofString "moves") = some (.ref zl))
    (hN : News h₀ L s.heap (W1.objs w.params ++ (W2.objs w.params ++ (zl, listOf zv.toArray zk) :: T)))
    (hD : DatAll T zv (ms.map tripD)) (hml : ms.length ≤ 20) (o1 : WsOk W1 c1) (o2 : WsOk W2 c2) (hb1 : W1.b ≤ 50) (hb2 : W2.b ≤ 50) (hl1 : c1.length ≤ 50) (hl2 : c2.length ≤ 50)
    (hEq : nlF c2 W2.b W2.nt c1 W1.b W1.nt (rangeKs 1 ((if longF c1 W1.b > longF c2 W2.b then longF c1 W1.b else longF c2 W2.b) + 1 + 1 - 1).toNat) = (ms.map swapT).map tripD)
    (hc : ∀ (h' : Heap) (tk' : Nat), Fr h₀ L h' m → News h₀ L h' (W1.objs w.params ++ (W2.objs w.params ++ (zl, listOf zv.toArray zk) :: T)) →
      wpAny (model Challenge.rw_pe0179_01.row.prog w) (lawA L fa cd) (execs rest (lawEnv L fa cd)) Q (fun e s1 => lawE w L fa cd Ea Eb e s1) { s with heap := h', toks := tk' }) :
    wpAny (model Challenge.rw_pe0179_01.row.prog w) (lawA L fa cd) (execs ((lawDef.body.drop 17).take 1 ++ rest) (lawEnv L fa cd)) Q (fun e s1 => lawE w L fa cd Ea Eb e s1) s := by
  revert hK
  k_fill
  intro hK
  k_with_none
  k_with "!eval ListComp" => (k_here; k_dflt (refine ListComp_X (by k_asm) (by with_unfolding_all rfl) (by decide) (by rfl) (by decide) ?_))
  have hF1 := fr1 (fr1 (fr1 hF hm3) (a := Str.ofString "last") (by rw [if_neg (by decide +kernel)]; exact hm2)) (a := Str.ofString "first") (by rw [if_neg (by decide +kernel), if_neg (by decide +kernel)]; exact hm)
  clear hF
  have kdm := kdMark
  dsimp only [WsT.objs, List.cons_append, List.nil_append] at hN
  dsimp only [lawDef, defOf, lawEnv, lawA, lawE, List.drop, List.take, List.cons_append, List.nil_append]
  all_goals (try k_fold)
  k_with "call ref" => (k_here; k_dflt (refine' nl_claim w mean mg mb W2 W1 c2 c1 o2 o1 hb2 hb1 hl2 hl1 _ _ _ _ _ _ _ _ _ _ _ _ _ _ _ _ _ _ ?k1 ?k2 ?k3 ?k4 ?k5 ?k6 ?k7 ?k8 ?k9 ?_; (case k1 => k_asm); (case k2 => k_asm); (case k3 => k_asm); (case k4 => k_asm); (case k5 => k_asm); (case k6 => exact rfl); (case k7 => (walk_at "sub")); (case k8 => decide +kernel); (case k9 => decide +kernel); intro l8 us8 n8 add8 h8 tk8 F8 N8 D8; simp only [List.cons_append] at N8))
  k_steps
  rename Fr _ _ _ _ => kF
  rename News _ _ _ _ => kN
  refine abs_led kN ?_
  intro nw hnw kN'
  clear kN
  refine srcX_trips3 (T := T) swapT rfl kF kN' (by rw [hnw]; k_mem) hD (by intro p hp; rw [hnw]; (first | walk_at "subm" | simp [hp])) (by rw [sizeLine_eq]; omega) rfl rfl rfl rfl (by decide +kernel) (by decide +kernel) (by decide +kernel) ?turn ?fin
  case turn =>
    clear kF kN'
    intro q t1 t2 t3 ys pre add I oI C oC D m₂ h tk E' hq hR2 hC hX hX2 hX3 F N off hne
    have off1 := off
    refine tst_nil ?_
    simp only [if_true]
    k_steps
    rename Fr _ _ _ _ => zF
    rename News _ _ _ _ => zN
    rename_i l9
    refine take1 zN ?_
    intro ob hob zN'
    clear zN
    have hob := (Prod.ext_iff.mp hob).2
    dsimp only at hob zN'
    refine cend_same (nw := nw ++ (_, ob) :: add) zF zN' ?_ ?_ ⟨_, rfl, trip_snoc' (q := swapT q) hR2 ⟨_, _, _, hob⟩⟩
    · walk_at "sub"
    · refine LCg.Off3.of fun p hp => ?_
      rcases List.mem_append.mp hp with hp | hp
      · exact off1.mem p (List.mem_append_left _ hp)
      · rcases List.mem_cons.mp hp with rfl | hp
        · exact ⟨Nat.ne_of_gt l9.1, Nat.ne_of_gt l9.2.1, Nat.ne_of_gt l9.2.2.1⟩
        · exact off1.mem p (List.mem_append_right _ hp)
  case fin =>
    clear kF kN'
    intro g ys add hR2
    unfold LCg.FinE
    intro D9 h9 tk9 F9 N9 o9
    refine kqd_ne (xs := us8) (ys := ys) N9 (ma := List.mem_cons_of_mem _ (List.mem_append_left _ (by rw [hnw]; exact List.mem_cons_self ..))) rfl rfl D8 ?_ (mb := List.mem_cons_self ..) rfl rfl hR2 ?_ ?_ ?_ (lawU L fa cd) ?_
    · intro p hp; rw [hnw]; (first | walk_at "subm" | simp [hp])
    · intro p hp; (first | walk_at "subm" | simp [hp])
    · rw [hEq]; exact trips_ok _
    · exact trips_ok _
    · rw [hEq]
      simp only [decide_true, Bool.not_true]
      have hN9 := sub_news N9 (l' := W1.objs w.params ++ (W2.objs w.params ++ (zl, listOf zv.toArray zk) :: T)) (by rw [hnw]; walk_at "sub")
      clear N9 D8 hEq hR2
      k_steps
      dsimp only
      rename Fr _ _ _ _ => zF
      rw [kept3' hm hm2 hm3] at zF
      exact hc _ _ zF hN9
end
end Mine
end
section
open PySem PySem.W PyProof.Rows
namespace Mine
theorem fresh_L21 : True := by
  k_with_none
  w_top off
  trivial
theorem kept3c {m : Str → Option Value} {a b c : Str} {u v x : Value} (h1 : m a = some u) (h2 : m b = some v) (h3 : m c = some x) : (fun y => if y = a then some u else if y = b then some v else if y = c then some x else m y) = m := by
  funext y
  by_cases q : y = a
  · rw [if_pos q, q, h1]
  · rw [if_neg q]
    by_cases q : y = b
    · rw [if_pos q, q, h2]
    · rw [if_neg q]
      by_cases q : y = c
      · rw [if_pos q, q, h3]
      · rw [if_neg q]
theorem seg7 (w : World) (mean : ExcName → Option Value) (mg mb : Str → Option Value) (h₀ : Heap) (L fa : Nat) (cd : Value) (m : Str → Option Value) (s : Shared) (Q : Flow → Shared → Prop) (Ea Eb : Value → Shared → Prop) (rest : List Stmt)
    (rl k : Nat) (us : List Value) (runs : List Int) (bh : Int) (tb : Tok) (oN : Obj) (W1 W2 : WsT) (c1 c2 : List Int) (T : List (Addr × Obj))
    (hB : Below callerA h₀ [] h₀) (hK : (hd.heap_39 w.params).In h₀) (hT : Top topProg LooseL mean mg mb h₀) (hch : CodeHd h₀ 176 172)
    (hF : Fr h₀ L s.heap m) (hm : m (Str.ofString "first") = some (.ref W1.x)) (hm2 : m (Str.ofString "last") = some (.ref W2.x)) (hm3 : m (Str.ofString "behind") = some (.int bh tb))
    (hN : News h₀ L s.heap (W1.objs w.params ++ (W2.objs w.params ++ (L + 1, oN) :: (rl, listOf us.toArray k) :: T)))
    (hNn : oN.data = .cell (some (.ref rl))) (o : RunsOk runs) (hI : IntsAre us runs) (o1 : WsOk W1 c1) (o2 : WsOk W2 c2) (hb1 : W1.b ≤ 50) (hb2 : W2.b ≤ 50) (hl1 : c1.length ≤ 50) (hl2 : c2.length ≤ 50)
    (hE1 : lessF W1 W2 c1 c2 = decide (0 < bh)) (hE2 : (decide (c1 = c2) && decide (W1.b = W2.b)) = decide (maxR runs = 0)) (hE3 : lessF W2 W1 c2 c1 = false)
    (hc : ∀ (h' : Heap) (tk' : Nat), Fr h₀ L h' m → News h₀ L h' (W1.objs w.params ++ (W2.objs w.params ++ (L + 1, oN) :: (rl, listOf us.toArray k) :: T)) →
      wpAny (model Challenge.rw_pe0179_01.row.prog w) (lawA L fa cd) (execs rest (lawEnv L fa cd)) Q (fun e s1 => lawE w L fa cd Ea Eb e s1) { s with heap := h', toks := tk' }) :
    wpAny (model Challenge.rw_pe0179_01.row.prog w) (lawA L fa cd) (execs ((lawDef.body.drop 18).take 1 ++ rest) (lawEnv L fa cd)) Q (fun e s1 => lawE w L fa cd Ea Eb e s1) s := by
  have hlen := o.len
  have hne : 0 < runs.length := List.length_pos_iff.mpr o.ne
  revert hK
  k_fill
  intro hK
  k_with_none
  have hF1 := fr1 (fr1 (fr1 hF hm3) (a := Str.ofString "last") (by rw [if_neg (by decide +kernel)]; exact hm2)) (a := Str.ofString "first") (by rw [if_neg (by decide +kernel), if_neg (by decide +kernel)]; exact hm)
  clear hF
  have kdm := kdMark
  dsimp only [WsT.objs, List.cons_append, List.nil_append] at hN
  dsimp only [lawDef, defOf, lawEnv, lawA, lawE, List.drop, List.take, List.cons_append, List.nil_append]
  all_goals (try k_fold)
  k_with "call ref" => (k_here; k_dflt first
    | (refine' less_claim w mean mg mb W1 W2 c1 c2 o1 o2 hb1 hb2 hl1 hl2 _ _ _ _ _ _ _ _ _ _ _ _ _ _ _ _ _ _ ?k1 ?k2 ?k3 ?k4 ?k5 ?k6 ?k7 ?k8 ?k9 ?k10 ?_; (case k1 => k_asm); (case k2 => k_asm); (case k3 => k_asm); (case k4 => k_asm); (case k5 => k_asm); (case k6 => exact rfl); (case k7 => (walk_at "sub")); (case k8 => trivial); (case k9 => decide +kernel); (case k10 => decide +kernel); intro t8 h8 tk8 F8 N8; rw [hE1])
    | (refine' less_claim w mean mg mb W2 W1 c2 c1 o2 o1 hb2 hb1 hl2 hl1 _ _ _ _ _ _ _ _ _ _ _ _ _ _ _ _ _ _ ?k1 ?k2 ?k3 ?k4 ?k5 ?k6 ?k7 ?k8 ?k9 ?k10 ?_; (case k1 => k_asm); (case k2 => k_asm); (case k3 => k_asm); (case k4 => k_asm); (case k5 => k_asm); (case k6 => exact rfl); (case k7 => (walk_at "sub")); (case k8 => trivial); (case k9 => decide +kernel); (case k10 => decide +kernel); intro t8 h8 tk8 F8 N8; rw [hE3])
    | (refine' equal_claim w mean mg mb W1 W2 c1 c2 o1 o2 _ _ _ _ _ _ _ _ _ _ _ _ _ _ _ _ _ _ ?k1 ?k2 ?k3 ?k4 ?k5 ?k6 ?k7 ?k8 ?k9 ?k10 ?_; (case k1 => k_asm); (case k2 => k_asm); (case k3 => k_asm); (case k4 => k_asm); (case k5 => k_asm); (case k6 => exact rfl); (case k7 => (walk_at "sub")); (case k8 => trivial); (case k9 => decide +kernel); (case k10 => decide +kernel); intro t8 h8 tk8 F8 N8; rw [hE2]))
  k_steps
  · rename (decide (0 < bh) != decide (0 < bh)) = true => hbad
    simp at hbad
  · rename (decide (maxR runs = 0) != (_ == 0)) = true => hbad
    have e := maxR_eq (fun r hr => (o.bd r hr).1) (by assumption) (by assumption)
    rw [e] at hbad
    by_cases q : maxR runs = 0
    · rw [q] at hbad; simp at hbad
    · simp [q] at hbad
  · rename Fr _ _ _ _ => zF
    rename News _ _ _ _ => zN
    dsimp only
    rw [kept3c hm hm2 hm3] at zF
    exact hc _ _ zF zN
end Mine
end
section
open PySem PySem.W PyProof.Rows
namespace Mine
theorem fresh_L22 : True := by
  k_with_none
  w_top off
  trivial
noncomputable def prodL (l : List Int) : Int := l.foldl (fun p x => p * x) 1
theorem prodL_snoc {l : List Int} {i : Nat} {n : Int} (h : l[i]? = some n) : prodL (l.take (i + 1)) = prodL (l.take i) * n := by
  unfold prodL; rw [List.take_add_one, h, Option.toList_some, List.foldl_append]; rfl
structure PSt where
  v : Int
  t : Tok
section
theorem seg8 (w : World) (mean : ExcName → Option Value) (mg mb : Str → Option Value) (h₀ : Heap) (L fa : Nat) (cd : Value) (m : Str → Option Value) (s : Shared) (Q : Flow → Shared → Prop) (Ea Eb : Value → Shared → Prop) (rest : List Stmt)
    (ml mk : Nat) (mus : List Value) (met : List Int) (T : List (Addr × Obj))
    (hB : Below callerA h₀ [] h₀) (hK : (hd.heap_39 w.params).In h₀) (hT : Top topProg LooseL mean mg mb h₀) (hch : CodeHd h₀ 176 172)
    (hF : Fr h₀ L s.heap m) (hm : m (Str.ofString "met") = some (.ref ml))
    (hN : News h₀ L s.heap ((ml, listOf mus.toArray mk) :: T)) (hI : IntsAre mus met) (hml : met.length ≤ 20) (hmb : ∀ x ∈ met, 0 ≤ x ∧ x ≤ 7)
    (hc : ∀ (tp : Tok) (M' : Str → Option Value) (h' : Heap) (tk' : Nat), Fr h₀ L h' M' → M' (Str.ofString "product") = some (.int (prodL met) tp) → (∀ y, y ≠ Str.ofString "product" → y ≠ Str.ofString "length" → M' y = m y) → News h₀ L h' ((ml, listOf mus.toArray mk) :: T) →
      wpAny (model Challenge.rw_pe0179_01.row.prog w) (lawA L fa cd) (execs rest (lawEnv L fa cd)) Q (fun e s1 => lawE w L fa cd Ea Eb e s1) { s with heap := h', toks := tk' }) :
    wpAny (model Challenge.rw_pe0179_01.row.prog w) (lawA L fa cd) (execs ((lawDef.body.drop 19).take 2 ++ rest) (lawEnv L fa cd)) Q (fun e s1 => lawE w L fa cd Ea Eb e s1) s := by
  revert hK
  k_fill
  intro hK
  k_with_none
  k_with "!mine_sameL" => (intro z h2 h3; (try dsimp only at h2); (simp only [List.forall_mem_cons, List.not_mem_nil, false_implies, implies_true, and_true, ne_eq] at h2); (simp only [List.contains_cons, List.contains_nil, Bool.or_false, Bool.or_eq_false_iff, beq_eq_false_iff_ne, ne_eq] at h3); simp [kstB, h2, h3])
  have hF1 := fr1 hF hm
  clear hF
  have kdm := kdMark
  dsimp only [lawDef, defOf, lawEnv, lawA, lawE, List.drop, List.take, List.cons_append, List.nil_append]
  all_goals (try k_fold)
  k_steps
  refine For_turns (by assumption) ?_
  k_steps
  rename Fr _ _ _ _ => lF
  rename News _ _ _ _ => lN
  refine' list_loop (σ := PSt) (vs := mus) (nn := mk) (fun c => (ml, listOf mus.toArray mk) :: T) (fun c => [(Str.ofString "product", .int c.v c.t)]) [Str.ofString "length"]
    (fun i c => c.v = prodL (met.take i)) ⟨_, _⟩ rfl lF lN ?hn ?hl ?hk ?hp ?turn ?done
  case hn => exact fun _ h => h
  case hl => exact List.mem_cons_self ..
  case hk => kst_all
  case hp => rfl
  case turn =>
    clear lF lN
    rintro ⟨pv, pt⟩ i v u h tk own hv hoff hl hst F N
    dsimp only at hst F
    obtain ⟨n, t, rfl, hn⟩ := IntsAre.at hI i v hv
    have hb := hmb n (List.mem_of_getElem? hn)
    try k_fold
    k_with "binaryOp Mult int int" => (refine mul_fitR ⟨by omega, by omega⟩ ?_)
    k_steps
    refine' tl_end (c := ⟨pv * n, _⟩) (by assumption) (by assumption) ?hn (by intro p hp; kst_mem) hoff (List.mem_cons_self ..) ?hk ?hr ?hp
    case hk => kst_all
    case hn => kd_inAll
    case hr => k_extra "!mine_sameL"
    case hp => dsimp only; rw [hst, prodL_snoc hn]
  case done =>
    clear lF lN
    rintro ⟨pv, pt⟩ u h tk hst F N
    dsimp only at hst F
    have hlen := hI.length
    rw [hlen, List.take_length] at hst
    k_steps
    dsimp only
    subst hst
    refine hc _ _ _ _ F rfl ?_ N
    intro y h1 h2
    simp only [kstB, List.contains_cons, List.contains_nil, Bool.or_false]
    rw [if_neg h1]
    have h3 : (y == Str.ofString "length") = false := by simpa using h2
    rw [h3]
    simp only [Bool.false_eq_true, if_false]
    rw [if_neg h1]
    exact congrFun (kept0 hm) y
end
end Mine
end
section
open PySem PySem.W PyProof.Rows
namespace Mine
theorem fresh_L23 : True := by
  k_with_none
  w_top off
  trivial
noncomputable def expF (c1 : List Int) (b1 nt1 : Int) (c2 : List Int) (b2 nt2 bh p : Int) : Int := (indF c2 b2 nt2 p - indF c1 b1 nt1 p - bh).fdiv p
noncomputable def pairD (q : Int × Int) : Dat := .tuple [.int q.1, .int q.2]
noncomputable def pairs5 : List (Int × Int) := [(2, 2), (4, 2), (3, 3), (5, 5), (7, 7)]
noncomputable def madeL (c1 : List Int) (b1 nt1 : Int) (c2 : List Int) (b2 nt2 bh : Int) (l : List (Int × Int)) : Int := l.foldl (fun v q => v * q.2 ^ (expF c1 b1 nt1 c2 b2 nt2 bh q.1).toNat) 1
structure PSt9 where
  v : Int
  t : Tok
theorem pair_of {add : List (Addr × Obj)} {us : List Value} {ms : List (Int × Int)} (hD : DatAll add us (ms.map pairD)) {i : Nat} {v : Value} (hv : us[i]? = some v) :
    ∃ (h : i < ms.length) (T : Addr) (n : Nat) (t1 t2 : Tok), v = .ref T ∧ (T, ({ cls := .type "tuple", data := .seq #[.int ms[i].1 t1, .int ms[i].2 t2] n } : Obj)) ∈ add := by
  obtain ⟨hi, hd⟩ := dget hD hv
  refine ⟨hi, ?_⟩
  obtain ⟨T, v1, v2, n, rfl, hm, h1, h2⟩ := dtup2 hd
  obtain ⟨t1, rfl⟩ := din_int h1
  obtain ⟨t2, rfl⟩ := din_int h2
  exact ⟨T, n, t1, t2, rfl, hm⟩
theorem pairs5_ok : ∀ q ∈ pairs5, 1 ≤ q.1 ∧ q.1 ≤ 7 ∧ 2 ≤ q.2 ∧ q.2 ≤ 7 ∧ q.1 ∈ [(2 : Int), 4, 3, 5, 7] := by
  unfold pairs5; decide
theorem pow_small {a : Int} {e : Nat} (ha : 2 ≤ a ∧ a ≤ 7) (he : e ≤ 12) : -(2 ^ 64) < a ^ e ∧ a ^ e < 2 ^ 64 := by
  obtain ⟨n, rfl⟩ : ∃ n : Nat, a = (n : Int) := ⟨a.toNat, by omega⟩
  have h1 : n ^ e ≤ 7 ^ 12 := Nat.le_trans (Nat.pow_le_pow_left (by omega) e) (Nat.pow_le_pow_right (by decide) he)
  have h2 : ((n : Int) ^ e) = ((n ^ e : Nat) : Int) := by simp
  rw [h2]
  have h3 : (7 : Nat) ^ 12 = 13841287201 := by decide
  omega
theorem madeL_snoc {c1 c2 : List Int} {b1 nt1 b2 nt2 bh : Int} {l : List (Int × Int)} {i : Nat} (h : i < l.length) : madeL c1 b1 nt1 c2 b2 nt2 bh (l.take (i + 1)) = madeL c1 b1 nt1 c2 b2 nt2 bh (l.take i) * l[i].2 ^ (expF c1 b1 nt1 c2 b2 nt2 bh l[i].1).toNat := by
  unfold madeL; rw [List.take_add_one, List.getElem?_eq_getElem h, Option.toList_some, List.foldl_append]; rfl
theorem kept4 {m : Str → Option Value} {a b c d : Str} {u v x z : Value} (h1 : m a = some u) (h2 : m b = some v) (h3 : m c = some x) (h4 : m d = some z) : (fun y => if y = a then some u else if y = b then some v else if y = c then some x else if y = d then some z else m y) = m := by
  funext y
  by_cases q : y = a
  · rw [if_pos q, q, h1]
  · rw [if_neg q]
    by_cases q : y = b
    · rw [if_pos q, q, h2]
    · rw [if_neg q]
      by_cases q : y = c
      · rw [if_pos q, q, h3]
      · rw [if_neg q]
        by_cases q : y = d
        · rw [if_pos q, q, h4]
        · rw [if_neg q]
theorem pack5 {P : Prop} {g h : Heap} {L0 l a b c d e : Addr} {t1 t2 t3 t4 t5 t6 t7 t8 t9 t10 : Tok} {rest : List (Addr × Obj)}
    (N : News g L0 h ((l, W.listOf #[Value.ref a, Value.ref b, Value.ref c, Value.ref d, Value.ref e] 0) :: (e, ({ cls := .type "tuple", data := .seq #[.int 7 t9, .int 7 t10] } : Obj)) :: (d, ({ cls := .type "tuple", data := .seq #[.int 5 t7, .int 5 t8] } : Obj)) :: (c, ({ cls := .type "tuple", data := .seq #[.int 3 t5, .int 3 t6] } : Obj)) :: (b, ({ cls := .type "tuple", data := .seq #[.int 4 t3, .int 2 t4] } : Obj)) :: (a, ({ cls := .type "tuple", data := .seq #[.int 2 t1, .int 2 t2] } : Obj)) :: rest))
    (k : ∀ us Tup, DatAll Tup us (pairs5.map pairD) → News g L0 h ((l, W.listOf us.toArray 0) :: (rest ++ Tup)) → P) : P := by
  refine k [.ref a, .ref b, .ref c, .ref d, .ref e] [(e, ({ cls := .type "tuple", data := .seq #[.int 7 t9, .int 7 t10] } : Obj)), (d, ({ cls := .type "tuple", data := .seq #[.int 5 t7, .int 5 t8] } : Obj)), (c, ({ cls := .type "tuple", data := .seq #[.int 3 t5, .int 3 t6] } : Obj)), (b, ({ cls := .type "tuple", data := .seq #[.int 4 t3, .int 2 t4] } : Obj)), (a, ({ cls := .type "tuple", data := .seq #[.int 2 t1, .int 2 t2] } : Obj))] ?_ ?_
  · refine .cons (.tuple (by repeat (first | exact List.Mem.head _ | refine List.Mem.tail _ ?_)) (.cons (.int _ _) (.cons (.int _ _) .nil))) (.cons (.tuple (by repeat (first | exact List.Mem.head _ | refine List.Mem.tail _ ?_)) (.cons (.int _ _) (.cons (.int _ _) .nil))) (.cons (.tuple (by repeat (first | exact List.Mem.head _ | refine List.Mem.tail _ ?_)) (.cons (.int _ _) (.cons (.int _ _) .nil))) (.cons (.tuple (by repeat (first | exact List.Mem.head _ | refine List.Mem.tail _ ?_)) (.cons (.int _ _) (.cons (.int _ _) .nil))) (.cons (.tuple (by repeat (first | exact List.Mem.head _ | refine List.Mem.tail _ ?_)) (.cons (.int _ _) (.cons (.int _ _) .nil))) .nil))))
  · refine sub_news N ?_
    walk_at "sub"
section
theorem seg9 (w : World) (mean : ExcName → Option Value) (mg mb : Str → Option Value) (h₀ : Heap) (L fa : Nat) (cd : Value) (m : Str → Option Value) (s : Shared) (Q : Flow → Shared → Prop) (Ea Eb : Value → Shared → Prop) (rest : List Stmt)
    (bh pr : Int) (tb tp : Tok) (W1 W2 : WsT) (c1 c2 : List Int) (T : List (Addr × Obj))
    (hB : Below callerA h₀ [] h₀) (hK : (hd.heap_39 w.params).In h₀) (hT : Top topProg LooseL mean mg mb h₀) (hch : CodeHd h₀ 176 172)
    (hF : Fr h₀ L s.heap m) (hm : m (Str.ofString "first") = some (.ref W1.x)) (hm2 : m (Str.ofString "last") = some (.ref W2.x)) (hm3 : m (Str.ofString "behind") = some (.int bh tb)) (hm4 : m (Str.ofString "product") = some (.int pr tp))
    (hN : News h₀ L s.heap (W1.objs w.params ++ (W2.objs w.params ++ T))) (o1 : WsOk W1 c1) (o2 : WsOk W2 c2)
    (hx : ∀ p ∈ [(2 : Int), 4, 3, 5, 7], 0 ≤ (indF c2 W2.b W2.nt p - indF c1 W1.b W1.nt p - bh).fdiv p ∧ (indF c2 W2.b W2.nt p - indF c1 W1.b W1.nt p - bh).fdiv p ≤ 12)
    (hE : 1 * 2 ^ (expF c1 W1.b W1.nt c2 W2.b W2.nt bh 2).toNat * 2 ^ (expF c1 W1.b W1.nt c2 W2.b W2.nt bh 4).toNat * 3 ^ (expF c1 W1.b W1.nt c2 W2.b W2.nt bh 3).toNat * 5 ^ (expF c1 W1.b W1.nt c2 W2.b W2.nt bh 5).toNat * 7 ^ (expF c1 W1.b W1.nt c2 W2.b W2.nt bh 7).toNat = pr)
    (hc : ∀ (M' : Str → Option Value) (h' : Heap) (tk' : Nat), Fr h₀ L h' M' → (∀ y, y ≠ Str.ofString "made" → y ≠ Str.ofString "power" → y ≠ Str.ofString "prime" → M' y = m y) → News h₀ L h' (W1.objs w.params ++ (W2.objs w.params ++ T)) →
      wpAny (model Challenge.rw_pe0179_01.row.prog w) (lawA L fa cd) (execs rest (lawEnv L fa cd)) Q (fun e s1 => lawE w L fa cd Ea Eb e s1) { s with heap := h', toks := tk' }) :
    wpAny (model Challenge.rw_pe0179_01.row.prog w) (lawA L fa cd) (execs ((lawDef.body.drop 21).take 3 ++ rest) (lawEnv L fa cd)) Q (fun e s1 => lawE w L fa cd Ea Eb e s1) s := by
  revert hK
  k_fill
  intro hK
  k_with_none
  k_with "!exec For Tuple List cons nil" => (k_here; ktu_look; (rename Fr _ _ _ _ => lF9); (k_dflt (refine' For_turns ?f9 ?_ ?hs9 ?hE9)); (case f9 => k_dflt (exact lF9)); (case hs9 => (intro _; with_unfolding_all exact rfl)); (case hE9 => with_unfolding_all passes_own); k_whole)
  k_with "!mine_sameL" => (intro z h2 h3; (try dsimp only at h2); (simp only [List.forall_mem_cons, List.not_mem_nil, false_implies, implies_true, and_true, ne_eq] at h2); (simp only [List.contains_cons, List.contains_nil, Bool.or_false, Bool.or_eq_false_iff, beq_eq_false_iff_ne, ne_eq] at h3); simp [kstB, h2, h3])
  have hF1 := fr1 (fr1 (fr1 (fr1 hF hm4) (a := Str.ofString "behind") (by rw [if_neg (by decide +kernel)]; exact hm3)) (a := Str.ofString "last") (by rw [if_neg (by decide +kernel), if_neg (by decide +kernel)]; exact hm2)) (a := Str.ofString "first") (by rw [if_neg (by decide +kernel), if_neg (by decide +kernel), if_neg (by decide +kernel)]; exact hm)
  clear hF
  have kdm := kdMark
  dsimp only [WsT.objs, List.cons_append, List.nil_append] at hN
  dsimp only [lawDef, defOf, lawEnv, lawA, lawE, List.drop, List.take, List.cons_append, List.nil_append]
  all_goals (try k_fold)
  k_with "call ref" => (k_here; k_dflt first
    | (refine' indent_claim w mean mg mb W1 c1 o1.hI o1.hl o1.hc _ _ ?ks ?kt _ _ _ _ _ _ _ _ _ _ _ _ _ _ _ _ _ _ ?k1 ?k2 ?k3 ?k4 ?k5 ?k6 ?k7 ?k8 ?k9 ?k10 ?_; (case ks => decide); (case kt => decide); (case k1 => k_asm); (case k2 => k_asm); (case k3 => k_asm); (case k4 => k_asm); (case k5 => k_asm); (case k6 => exact rfl); (case k7 => (walk_at "sub")); (case k8 => trivial); (case k9 => decide +kernel); (case k10 => decide +kernel); intro t8 h8 tk8 F8 N8)
    | (refine' indent_claim w mean mg mb W2 c2 o2.hI o2.hl o2.hc _ _ ?ks ?kt _ _ _ _ _ _ _ _ _ _ _ _ _ _ _ _ _ _ ?k1 ?k2 ?k3 ?k4 ?k5 ?k6 ?k7 ?k8 ?k9 ?k10 ?_; (case ks => decide); (case kt => decide); (case k1 => k_asm); (case k2 => k_asm); (case k3 => k_asm); (case k4 => k_asm); (case k5 => k_asm); (case k6 => exact rfl); (case k7 => (walk_at "sub")); (case k8 => trivial); (case k9 => decide +kernel); (case k10 => decide +kernel); intro t8 h8 tk8 F8 N8))
  k_steps
  rename Fr _ _ _ _ => lF
  rename News _ _ _ _ => lN0
  refine pack5 lN0 ?_
  intro us Tup hD lN
  clear lN0
  simp only [List.cons_append] at lN
  rename_i l5 _ _
  refine' list_loop (σ := PSt9) (vs := us) (nn := 0) (fun c => (l5, W.listOf us.toArray 0) :: (W1.objs w.params ++ (W2.objs w.params ++ (T ++ Tup)))) (fun c => [(Str.ofString "made", .int c.v c.t)]) [Str.ofString "power", Str.ofString "prime"]
    (fun i c => c.v = madeL c1 W1.b W1.nt c2 W2.b W2.nt bh (pairs5.take i)) ⟨_, _⟩ rfl lF lN ?hn ?hl ?hk ?hp ?turn ?done
  case hn => exact fun _ h => h
  case hl => exact List.mem_cons_self ..
  case hk => kst_all
  case hp => rfl
  case turn =>
    clear lF lN
    rintro ⟨pv, pt⟩ i v u h tk own hv hoff hl hst F N
    dsimp only at hst F
    refine cps ?_
    intro C9 hC9
    obtain ⟨hi, Tq, nT, u1, u2, rfl, hmem⟩ := pair_of hD hv
    refine hC9 ?_
    clear hC9 C9
    have hN3 := news_app (own := [(Tq, ({ cls := .type "tuple", data := .seq #[.int pairs5[i].1 u1, .int pairs5[i].2 u2] nT } : Obj))]) N (by intro p hp; rw [List.mem_singleton.mp hp]; simp [hmem])
    simp only [WsT.objs, List.cons_append, List.nil_append] at hN3
    clear N
    refine cps ?_
    intro C9 hC9
    obtain ⟨hq1, hq2, hq3, hq4, hq5⟩ := pairs5_ok pairs5[i] (List.getElem_mem hi)
    refine hC9 ?_
    clear hC9 C9
    generalize hqi : pairs5[i] = qi at *
    obtain ⟨pw, pm⟩ := qi
    dsimp only at hN3 hq1 hq2 hq3 hq4 hq5
    obtain ⟨hx1, hx2⟩ := hx pw hq5
    have hpm : pm.natAbs < 2 ^ 64 := by omega
    have hbig := pow_small (a := pm) (e := ((indF c2 W2.b W2.nt pw - indF c1 W1.b W1.nt pw - bh).fdiv pw).toNat) ⟨hq3, hq4⟩ (by omega)
    have hx3 : (indF c2 W2.b W2.nt pw - indF c1 W1.b W1.nt pw - bh).fdiv pw ≤ 1000000 := by omega
    try k_fold
    k_with "call ref" => (k_here; k_dflt first
      | (refine' indent_claim w mean mg mb W1 c1 o1.hI o1.hl o1.hc _ _ ?js ?jt _ _ _ _ _ _ _ _ _ _ _ _ _ _ _ _ _ _ ?j1 ?j2 ?j3 ?j4 ?j5 ?j6 ?j7 ?j8 ?j9 ?j10 ?_; (case js => exact hq1); (case jt => omega); (case j1 => k_asm); (case j2 => k_asm); (case j3 => k_asm); (case j4 => k_asm); (case j5 => k_asm); (case j6 => exact rfl); (case j7 => (walk_at "sub")); (case j8 => trivial); (case j9 => decide +kernel); (case j10 => decide +kernel); intro t8 h8 tk8 F8 N8)
      | (refine' indent_claim w mean mg mb W2 c2 o2.hI o2.hl o2.hc _ _ ?js ?jt _ _ _ _ _ _ _ _ _ _ _ _ _ _ _ _ _ _ ?j1 ?j2 ?j3 ?j4 ?j5 ?j6 ?j7 ?j8 ?j9 ?j10 ?_; (case js => exact hq1); (case jt => omega); (case j1 => k_asm); (case j2 => k_asm); (case j3 => k_asm); (case j4 => k_asm); (case j5 => k_asm); (case j6 => exact rfl); (case j7 => (walk_at "sub")); (case j8 => trivial); (case j9 => decide +kernel); (case j10 => decide +kernel); intro t8 h8 tk8 F8 N8))
    k_with "binaryOp Pow int int" => (refine pow_int_small hx1 hx3 hpm ?_)
    k_with "binaryOp Mult int int" => (refine mul_fitR hbig ?_)
    k_steps
    refine' tl_end (c := ⟨pv * pm ^ ((indF c2 W2.b W2.nt pw - indF c1 W1.b W1.nt pw - bh).fdiv pw).toNat, _⟩) (by assumption) (by assumption) ?hn ?ho hoff hl ?hk ?hr ?hp
    case ho => (intro p hp; (first | walk_at "subm" | simp [hp]))
    case hk => kst_all
    case hn => (walk_at "sub")
    case hr => k_extra "!mine_sameL"
    case hp =>
      dsimp only
      rw [hst, madeL_snoc hi, hqi]
      rfl
  case done =>
    clear lF lN
    rintro ⟨pv, pt⟩ u h tk hst F N
    dsimp only at hst F
    have hlen : us.length = 5 := hD.length
    rw [hlen] at hst
    have hpv : pv = pr := by rw [hst, ← hE]; rfl
    simp only [WsT.objs, List.cons_append, List.nil_append] at N
    k_steps
    · exact absurd hpv (by assumption)
    · rename Fr _ _ _ _ => zF
      rename News _ _ _ _ => zN
      dsimp only
      refine hc _ _ _ zF ?_ (sub_news zN ?_)
      · intro y h1 h2 h3
        simp only [kstB, List.contains_cons, List.contains_nil, Bool.or_false]
        rw [if_neg h1]
        have e2 : (y == Str.ofString "power") = false := by simpa using h2
        have e3 : (y == Str.ofString "prime") = false := by simpa using h3
        rw [e2, e3]
        simp only [Bool.or_false, Bool.false_eq_true, if_false]
        rw [if_neg h1]
        exact congrFun (kept4 hm hm2 hm3 hm4) y
      · walk_at "sub"
end
end Mine
end
section
open PySem PySem.W PyProof.Rows
namespace Mine
theorem fresh_L24 : True := by
  k_with_none
  w_top off
  trivial
noncomputable def indR (runs : List Int) (ts : Int) (j : Nat) : Int := indF (cntF (endN runs j)) (lastN runs j : Int) ((runs.length : Int) - 1) ts
noncomputable def indAll (runs : List Int) (ts : Int) (n : Nat) : List Int := (List.range n).map (indR runs ts)
noncomputable def dueF (runs : List Int) (size : Int) : Int := size * (runs.sum + size * ((runs.length : Int) - 1)) + if 0 < lastR runs then (size * (size - 1)).fdiv 2 else 0
theorem seg10a (w : World) (mean : ExcName → Option Value) (mg mb : Str → Option Value) (h₀ : Heap) (L fa : Nat) (cd : Value) (m : Str → Option Value) (s : Shared) (Q : Flow → Shared → Prop) (Ea Eb : Value → Shared → Prop) (rest : List Stmt)
    (rl k snd : Nat) (us : List Value) (runs : List Int) (t2 : Tok) (oZ oR oH oN : Obj) (cZ : Option Value) (T : List (Addr × Obj))
    (hB : Below callerA h₀ [] h₀) (hK : (hd.heap_39 w.params).In h₀) (hT : Top topProg LooseL mean mg mb h₀) (hch : CodeHd h₀ 176 172)
    (hF : Fr h₀ L s.heap m) (hm : m (Str.ofString "sendings") = some (.int (snd : Int) t2))
    (hN : News h₀ L s.heap ((L + 1 + 1 + 1 + 1, oZ) :: (L + 1 + 1 + 1, oR) :: (L + 1 + 1, oH) :: (L + 1, oN) :: (rl, listOf us.toArray k) :: T))
    (hZ : oZ.data = .cell cZ) (hNn : oN.data = .cell (some (.ref rl))) (o : RunsOk runs) (hI : IntsAre us runs) (hs : snd ≤ 3) (hO : OwnOff T [L + 1 + 1 + 1 + 1]) (hro : rl ≠ L + 1 + 1 + 1 + 1)
    (hc : ∀ (due : Int) (td tz : Tok) (oZ' : Obj) (M' : Str → Option Value) (h' : Heap) (tk' : Nat), due = dueF runs ((snd : Int) + 1) → Fr h₀ L h' M' → M' (Str.ofString "due") = some (.int due td) → (∀ y, y ≠ Str.ofString "due" → M' y = m y) → oZ'.data = .cell (some (.int ((snd : Int) + 1) tz)) →
      News h₀ L h' ((L + 1 + 1 + 1 + 1, oZ') :: (L + 1 + 1 + 1, oR) :: (L + 1 + 1, oH) :: (L + 1, oN) :: (rl, listOf us.toArray k) :: T) →
      wpAny (model Challenge.rw_pe0179_01.row.prog w) (lawA L fa cd) (execs rest (lawEnv L fa cd)) Q (fun e s1 => lawE w L fa cd Ea Eb e s1) { s with heap := h', toks := tk' }) :
    wpAny (model Challenge.rw_pe0179_01.row.prog w) (lawA L fa cd) (execs ((lawDef.body.drop 24).take 3 ++ rest) (lawEnv L fa cd)) Q (fun e s1 => lawE w L fa cd Ea Eb e s1) s := by
  have hlen := o.len
  have hne : 0 < runs.length := List.length_pos_iff.mpr o.ne
  revert hK
  k_fill
  intro hK
  k_with_none
  have hF1 := fr1 hF hm
  clear hF
  have kdm := kdMark
  dsimp only [lawDef, defOf, lawEnv, lawA, lawE, List.drop, List.take, List.cons_append, List.nil_append]
  all_goals (try k_fold)
  k_with "binaryOp Mult int int" => (refine mul_fitL ⟨by omega, by omega⟩ ?_)
  k_steps
  all_goals (
    rename Fr _ _ _ _ => zF
    rename News _ _ _ _ => zN
    rename Obj.data _ = Data.cell (some (.int ((snd : Int) + 1) _)) => zd
    (try dsimp only)
    refine hc _ _ _ _ _ _ _ ?_ zF rfl ?_ zd zN
    · first
      | (rename 0 < runs.getD _ _ => hc0; rw [lastR_eq hne] at hc0; unfold dueF; rw [if_pos hc0])
      | (rename ¬ 0 < runs.getD _ _ => hc0; rw [lastR_eq hne] at hc0; unfold dueF; rw [if_neg hc0, Int.add_zero])
    · intro y hy
      (try simp only [if_neg hy])
      exact congrFun (kept0 hm) y)
section
theorem seg10b (w : World) (mean : ExcName → Option Value) (mg mb : Str → Option Value) (h₀ : Heap) (L fa : Nat) (cd : Value) (m : Str → Option Value) (s : Shared) (Q : Flow → Shared → Prop) (Ea Eb : Value → Shared → Prop)
    (pl pk n : Nat) (runs : List Int) (size due : Int) (tz td : Tok) (oZ : Obj) (Ws : List WsT) (T : List (Addr × Obj))
    (hB : Below callerA h₀ [] h₀) (hK : (hd.heap_39 w.params).In h₀) (hT : Top topProg LooseL mean mg mb h₀) (hch : CodeHd h₀ 176 172)
    (hF : Fr h₀ L s.heap m) (hm : m (Str.ofString "due") = some (.int due td)) (hm2 : m (Str.ofString "pages") = some (.ref pl))
    (hN : News h₀ L s.heap ((L + 1 + 1 + 1 + 1, oZ) :: (pl, listOf (Ws.map fun W => Value.ref W.x).toArray pk) :: T))
    (hZ : oZ.data = .cell (some (.int size tz))) (hs1 : 1 ≤ size) (hs2 : size ≤ 100)
    (hWl : Ws.length = n) (hn : n ≤ 10) (hWs : ∀ j W, Ws[j]? = some W → (PageOk runs W j ∧ WsOk W (cntF (endN runs j))) ∧ ∀ p ∈ W.objs w.params, p ∈ T)
    (hE : (indAll runs size n).sum = due)
    (hc : ∀ (M' : Str → Option Value) (nw : List (Addr × Obj)) (h' : Heap) (tk' : Nat), Fr h₀ L h' M' → News h₀ L h' nw → (∀ p ∈ T, p ∈ nw) → Q (.ret (.bool true)) { s with heap := h', toks := tk' }) :
    wpAny (model Challenge.rw_pe0179_01.row.prog w) (lawA L fa cd) (execs (lawDef.body.drop 27) (lawEnv L fa cd)) Q (fun e s1 => lawE w L fa cd Ea Eb e s1) s := by
  revert hK
  k_fill
  intro hK
  k_with_none
  k_with "!eval ListComp" => (k_here; k_dflt (refine ListComp_X (by k_asm) (by with_unfolding_all rfl) (by decide) (by rfl) (by decide) ?_))
  have hF1 := fr1 (fr1 hF hm2) (a := Str.ofString "due") (by rw [if_neg (by decide +kernel)]; exact hm)
  clear hF
  have kdm := kdMark
  dsimp only [lawDef, defOf, lawEnv, lawA, lawE, List.drop]
  all_goals (try k_fold)
  k_steps
  rename Fr _ _ _ _ => kF
  rename News _ _ _ _ => kN
  have hsz' : (Ws.map fun W => Value.ref W.x).toArray.size = n := by simp [hWl]
  refine srcX_list (its := (Ws.map fun W => Value.ref W.x).toArray) (fun _ v m₂ => m₂ (Str.ofString "page") = some v) (fun i ys nw' => nw' = (L + 1 + 1 + 1 + 1, oZ) :: (pl, listOf (Ws.map fun W => Value.ref W.x).toArray pk) :: T ∧ IntsAre ys (indAll runs size i)) rfl kF kN (fun i ys nw' h => .inr ⟨_, h.1 ▸ List.mem_cons_of_mem _ (List.mem_cons_self ..), rfl, _, rfl⟩) (by rw [hsz', sizeLine_eq]; omega) ⟨rfl, .nil⟩ (fun g I => takes_name rfl rfl) ?turn ?fin
  case turn =>
    clear kF kN
    rintro g i v ys nw' I oI C oC D m₂ h tk E' hi hv ⟨rfl, hR⟩ hC hX F N off hne
    rw [hsz'] at hi
    have hiW : i < Ws.length := by omega
    have hv' : v = .ref Ws[i].x := by
      have : (Ws.map fun W => Value.ref W.x)[i]? = some v := by simpa using hv
      rw [List.getElem?_map, List.getElem?_eq_getElem hiW] at this
      simpa using this.symm
    subst hv'
    obtain ⟨⟨hp, ho⟩, hmem⟩ := hWs i Ws[i] (List.getElem?_eq_getElem hiW)
    generalize Ws[i] = W at *
    have hN3 := news_app (own := W.objs w.params) N (by intro p hp; have := hmem p hp; (first | walk_at "subm" | simp [this]))
    dsimp only [WsT.objs, List.cons_append, List.nil_append] at hN3
    clear N
    have off1 := off
    simp only [LCg.Off3] at off
    obtain ⟨f1, f2, f3⟩ := off
    refine tst_nil ?_
    simp only [if_true]
    k_with "call ref" => (k_here; k_dflt (refine' indent_claim w mean mg mb W (cntF (endN runs i)) ho.hI ho.hl ho.hc _ _ ?js ?jt _ _ _ _ _ _ _ _ _ _ _ _ _ _ _ _ _ _ ?j1 ?j2 ?j3 ?j4 ?j5 ?j6 ?j7 ?j8 ?j9 ?j10 ?_; (case js => exact hs1); (case jt => exact hs2); (case j1 => k_asm); (case j2 => k_asm); (case j3 => k_asm); (case j4 => k_asm); (case j5 => k_asm); (case j6 => exact rfl); (case j7 => (walk_at "sub")); (case j8 => trivial); (case j9 => decide +kernel); (case j10 => decide +kernel); intro t8 h8 tk8 F8 N8))
    k_steps
    rename Fr _ _ _ _ => zF
    rename News _ _ _ _ => zN
    refine cend_same zF zN ?_ off1 ⟨rfl, ?_⟩
    · walk_at "sub"
    · rw [hp.b, hp.nt]
      unfold indAll
      rw [List.range_succ, List.map_append]
      exact ints_snoc hR
  case fin =>
    clear kF kN
    rintro g ys nw' ⟨rfl, hR⟩
    rw [hsz'] at hR
    k_steps
    rename Fr _ _ _ _ => zF
    rename News _ _ _ _ => zN
    rw [hE, beq_self_eq_true]
    exact hc _ _ _ _ zF zN (fun p hp => by simp [hp])
end
end Mine
end
section
open PySem PySem.W PyProof.Rows
namespace Mine
theorem fresh_PZ : True := by
  k_with_none
  w_top off
  trivial
noncomputable def rf (h n : Nat) : Nat := if n = 0 then 0 else n + h
noncomputable def eN (runs : List Int) : List Nat := runs.dropLast.map Int.toNat
noncomputable def zN (runs : List Int) : Nat := (lastR runs).toNat
theorem rowN_rf (h : Nat) (r : Int) : rowN h r = rf h r.toNat := rfl
theorem endN_eq (runs : List Int) (h : Nat) : endN runs h = (eN runs).map (rf h) := by
  unfold endN rowsN eN
  rw [← List.map_dropLast, List.map_map]; rfl
theorem lastR_last {runs : List Int} (hne : runs ≠ []) : lastR runs = runs.getLast hne := by
  unfold lastR
  rw [List.getD_eq_getElem?_getD, List.getElem?_eq_getElem (by have := List.length_pos_iff.mpr hne; (first | lia | omega)), Option.getD_some, List.getLast_eq_getElem]
theorem lastN_eq {runs : List Int} (hne : runs ≠ []) (h : Nat) : lastN runs h = rf h (zN runs) := by
  unfold lastN rowsN zN
  rw [lastR_last hne, ← rowN_rf]
  have e : runs = runs.dropLast ++ [runs.getLast hne] := (List.dropLast_concat_getLast hne).symm
  generalize runs.getLast hne = x at e ⊢
  generalize runs.dropLast = d at e
  rw [e, List.map_append]
  simp
theorem zN_cast {runs : List Int} (o : RunsOk runs) : lastR runs = (zN runs : Int) := by
  unfold zN
  have : 0 ≤ lastR runs := by
    rw [lastR_last o.ne]; exact (o.bd _ (List.getLast_mem o.ne)).1
  (first | lia | omega)
theorem zN_le {runs : List Int} (o : RunsOk runs) : zN runs ≤ 4 := by
  have : lastR runs ≤ 4 := by rw [lastR_last o.ne]; exact (o.bd _ (List.getLast_mem o.ne)).2
  unfold zN; (first | lia | omega)
theorem eN_le {runs : List Int} (o : RunsOk runs) : ∀ n ∈ eN runs, n ≤ 4 := by
  intro n hn
  obtain ⟨r, hr, rfl⟩ := List.mem_map.mp hn
  have := o.bd r (List.dropLast_subset _ hr)
  (first | lia | omega)
theorem eN_len {runs : List Int} (o : RunsOk runs) : (eN runs).length + 1 = runs.length := by
  unfold eN
  rw [List.length_map, List.length_dropLast]
  have := List.length_pos_iff.mpr o.ne
  (first | lia | omega)
theorem eN_len3 {runs : List Int} (o : RunsOk runs) : (eN runs).length ≤ 3 := by
  have := eN_len o; have := o.len; (first | lia | omega)
/-- the indent of hop h -/
noncomputable def indN (E : List Nat) (z h ts : Nat) : Int := (rf h z : Int) + ts * (divs ts (E.map (rf h)) + (E.length : Int))
theorem indR_eq {runs : List Int} (o : RunsOk runs) (h ts : Nat) (h1 : 1 ≤ ts) : indR runs (ts : Int) h = indN (eN runs) (zN runs) h ts := by
  unfold indR
  rw [ind_eq _ _ _ ts h1, endN_eq, lastN_eq o.ne]
  have := eN_len o
  unfold indN
  congr 3
  (first | lia | omega)
theorem divs_nil (ts : Nat) : divs ts [] = 0 := rfl
theorem divs_cons (ts n : Nat) (l : List Nat) : divs ts (n :: l) = ((n / ts : Nat) : Int) + divs ts l := by simp [divs]
/-- the multiples among n + 1 .. n + s -/
noncomputable def mults (ts n : Nat) : Nat → Nat
  | 0 => 0
  | s + 1 => mults ts n s + if ts ∣ n + (s + 1) then 1 else 0
theorem div_mults (ts n : Nat) : ∀ s, (n + s) / ts = n / ts + mults ts n s
  | 0 => rfl
  | s + 1 => by
    have ih := div_mults ts n s
    rw [show n + (s + 1) = (n + s) + 1 from rfl, Nat.succ_div, ih, mults]
    rw [show n + (s + 1) = (n + s) + 1 from rfl]
    split <;> (first | lia | omega)
noncomputable def multR (ts s n : Nat) : Nat := if n = 0 then 0 else mults ts n s
theorem rf_div (ts s n : Nat) : rf s n / ts = n / ts + multR ts s n := by
  unfold rf multR
  split
  · rename_i h; subst h; simp
  · exact div_mults ts n s
noncomputable def multAll (ts s : Nat) (E : List Nat) : Nat := (E.map (multR ts s)).sum
theorem divs_rf (ts s : Nat) (E : List Nat) : divs ts (E.map (rf s)) = divs ts E + (multAll ts s E : Int) := by
  induction E with
  | nil => simp [divs, multAll]
  | cons n l ih =>
    rw [List.map_cons, divs_cons, divs_cons, ih, rf_div]
    simp only [multAll, List.map_cons, List.sum_cons]
    (first | lia | omega)
noncomputable def bhN (z s : Nat) : Nat := if z = 0 then 0 else s
theorem rf_bh (z s : Nat) : rf s z = z + bhN z s := by
  unfold rf bhN; split <;> (first | lia | omega)
theorem rf_zero (n : Nat) : rf 0 n = n := by unfold rf; split <;> (first | lia | omega)
theorem map_rf_zero (E : List Nat) : E.map (rf 0) = E := by
  conv => rhs; rw [← List.map_id E]
  exact List.map_congr_left fun n _ => rf_zero n
theorem ind_move (E : List Nat) (z s ts : Nat) : indN E z s ts = indN E z 0 ts + ts * (multAll ts s E : Int) + (bhN z s : Int) := by
  unfold indN
  rw [divs_rf, map_rf_zero, rf_bh, rf_zero, Int.mul_add, Int.mul_add, Int.mul_add]
  (first | lia | omega)
theorem col_eq (ts : Nat) (h1 : 1 ≤ ts) : ∀ (l : List Int) (q : Int), (∀ r ∈ l, 0 ≤ r) → l.foldl (colStep (ts : Int)) (ts * q) = ts * (q + divs ts (l.map Int.toNat) + (l.length : Int))
  | [], q, _ => by simp [divs]
  | r :: l, q, h => by
    have hr := h r (by simp)
    obtain ⟨n, rfl⟩ : ∃ n : Nat, r = (n : Int) := ⟨r.toNat, by (first | lia | omega)⟩
    have e : colStep (ts : Int) (ts * q) (n : Int) = ts * (q + ((n / ts : Nat) : Int) + 1) := by
      unfold colStep
      have hpos : (0 : Int) < (ts : Int) := by (first | lia | omega)
      rw [Int.fmod_eq_emod_of_nonneg _ (by (first | lia | omega)), Int.add_comm (↑ts * q) (n : Int), Int.add_mul_emod_self_left]
      have h2 : (n : Int) % (ts : Int) = ((n % ts : Nat) : Int) := (Int.natCast_emod n ts).symm
      have h3 : n % ts + ts * (n / ts) = n := Nat.mod_add_div n ts
      have h4 : ((n % ts : Nat) : Int) + (ts : Int) * ((n / ts : Nat) : Int) = (n : Int) := by exact_mod_cast h3
      rw [h2, Int.mul_add, Int.mul_add]
      (first | lia | omega)
    rw [List.foldl_cons, e, col_eq ts h1 l _ fun r hr => h r (by simp [hr])]
    simp only [List.map_cons, List.length_cons, divs_cons, Int.toNat_natCast]
    congr 1
    (first | lia | omega)
theorem near_eq {runs : List Int} (o : RunsOk runs) (ts : Nat) (h1 : 1 ≤ ts) : nearF runs (ts : Int) = indN (eN runs) (zN runs) 0 ts := by
  unfold nearF colF
  have h := col_eq ts h1 runs.dropLast 0 (fun r hr => (o.bd r (List.dropLast_subset _ hr)).1)
  rw [Int.mul_zero] at h
  rw [h, zN_cast o]
  unfold indN
  rw [map_rf_zero, rf_zero]
  have e : runs.dropLast.length = (eN runs).length := by simp [eN]
  rw [e]
  unfold eN
  rw [Int.zero_add]
  (first | lia | omega)
/-- the lengths met -/
noncomputable def metN (E : List Nat) : Nat → List Nat
  | 0 => []
  | s + 1 => metN E s ++ (E.map (rf (s + 1))).filter fun n => n != 0
theorem metF_eq (runs : List Int) : ∀ s, metF runs (s + 1) = (metN (eN runs) s).map fun n : Nat => (n : Int)
  | 0 => by
    have : metF runs (0 + 1) = if (0 : Int) < ((0 : Nat) : Int) then metF runs 0 ++ endedI runs 0 else metF runs 0 := rfl
    rw [this, if_neg (by decide)]; rfl
  | s + 1 => by
    have : metF runs (s + 1 + 1) = if (0 : Int) < ((s + 1 : Nat) : Int) then metF runs (s + 1) ++ endedI runs (s + 1) else metF runs (s + 1) := rfl
    rw [this, if_pos (by (first | lia | omega)), metF_eq runs s, metN, List.map_append]
    unfold endedI
    rw [endN_eq]
theorem cnt_map (l : List Nat) (ts : Nat) : cntM (l.map fun n : Nat => (n : Int)) (ts : Int) = ((l.filter fun n => decide (ts ∣ n)).length : Int) := by
  unfold cntM
  rw [List.filter_map, List.length_map]
  congr 2
  apply List.filter_congr
  intro n _
  refine decide_eq_decide.mpr ?_
  rw [Int.fmod_eq_emod_of_nonneg _ (by (first | lia | omega))]
  constructor
  · intro h
    exact Int.natCast_dvd_natCast.mp (Int.dvd_of_emod_eq_zero h)
  · intro h
    exact Int.emod_eq_zero_of_dvd (Int.natCast_dvd_natCast.mpr h)
theorem met_cnt (E : List Nat) (ts : Nat) : ∀ s, ((metN E s).filter fun n => decide (ts ∣ n)).length = multAll ts s E
  | 0 => by
    simp only [metN, List.filter_nil, List.length_nil, multAll]
    induction E with
    | nil => rfl
    | cons n l ih => simp only [List.map_cons, List.sum_cons, ← ih]; unfold multR mults; split <;> rfl
  | s + 1 => by
    rw [metN, List.filter_append, List.length_append, met_cnt E ts s]
    unfold multAll
    induction E with
    | nil => rfl
    | cons n l ih =>
      simp only [List.map_cons, List.sum_cons]
      by_cases hn : n = 0
      · subst hn
        rw [List.filter_cons_of_neg (by simp [rf])]
        have e1 : multR ts (s + 1) 0 = 0 := by simp [multR]
        have e2 : multR ts s 0 = 0 := by simp [multR]
        rw [e1, e2]; (first | lia | omega)
      · have e0 : rf (s + 1) n = n + (s + 1) := by simp [rf, hn]
        rw [e0, List.filter_cons_of_pos (by simp)]
        have e1 : multR ts (s + 1) n = multR ts s n + if ts ∣ n + (s + 1) then 1 else 0 := by simp [multR, hn, mults]
        rw [e1]
        by_cases hd : ts ∣ n + (s + 1)
        · rw [List.filter_cons_of_pos (by simpa using hd), if_pos hd, List.length_cons]; (first | lia | omega)
        · rw [List.filter_cons_of_neg (by simpa using hd), if_neg hd]; (first | lia | omega)
theorem bh_eq {runs : List Int} (o : RunsOk runs) (s : Nat) : behindF runs s = (bhN (zN runs) s : Int) := by
  unfold behindF bhN
  have := zN_cast o
  split <;> split <;> (first | lia | omega)
theorem cnt_eq (runs : List Int) (s ts : Nat) : cntM (metF runs (s + 1)) (ts : Int) = (multAll ts s (eN runs) : Int) := by
  rw [metF_eq, cnt_map, met_cnt]
theorem far_eq {runs : List Int} (o : RunsOk runs) (s ts : Nat) (h1 : 1 ≤ ts) : farF runs (metF runs (s + 1)) s (ts : Int) = indN (eN runs) (zN runs) s ts := by
  unfold farF
  rw [near_eq o ts h1, cnt_eq, bh_eq o, ind_move _ _ s]
end Mine
end
section
open PySem PySem.W PyProof.Rows
namespace Mine
theorem fresh_PY1 : True := by
  k_with_none
  w_top off
  trivial
/-- the longest row -/
noncomputable def mxN (E : List Nat) (z : Nat) : Nat := E.foldl max z
theorem mxN_spec (E : List Nat) : ∀ z : Nat, (∀ n ∈ E, n ≤ E.foldl max z) ∧ z ≤ E.foldl max z ∧ (E.foldl max z = z ∨ E.foldl max z ∈ E) := by
  induction E with
  | nil => intro z; simp
  | cons r l ih =>
    intro z
    obtain ⟨h1, h2, h3⟩ := ih (max z r)
    rw [List.foldl_cons]
    refine ⟨?_, by (first | lia | omega), ?_⟩
    · intro a ha
      rcases List.mem_cons.mp ha with rfl | ha
      · (first | lia | omega)
      · exact h1 a ha
    · rcases h3 with h3 | h3
      · rcases Nat.le_total z r with q | q
        · right; rw [h3, Nat.max_eq_right q]; simp
        · left; rw [h3, Nat.max_eq_left q]
      · right; simp [h3]
theorem maxR_mx {runs : List Int} (o : RunsOk runs) : maxR runs = (mxN (eN runs) (zN runs) : Int) := by
  obtain ⟨h1, h2, h3⟩ := mxN_spec (eN runs) (zN runs)
  have hz := zN_cast o
  have hb : ∀ r ∈ runs, 0 ≤ r := fun r hr => (o.bd r hr).1
  have hl := lastR_last o.ne
  symm
  refine maxR_eq hb ?_ ?_
  · show ((List.foldl max (zN runs) (eN runs) : Nat) : Int) ∈ runs
    rcases h3 with h3 | h3
    · rw [h3, ← hz, hl]; exact List.getLast_mem o.ne
    · generalize List.foldl max (zN runs) (eN runs) = x at h3
      obtain ⟨r, hr, rfl⟩ := List.mem_map.mp h3
      have hr' := List.dropLast_subset _ hr
      have := hb r hr'
      rw [show ((r.toNat : Nat) : Int) = r from by (first | lia | omega)]; exact hr'
  · intro a ha
    have e : runs = runs.dropLast ++ [runs.getLast o.ne] := (List.dropLast_concat_getLast o.ne).symm
    rw [e] at ha
    show a ≤ ((List.foldl max (zN runs) (eN runs) : Nat) : Int)
    rcases List.mem_append.mp ha with ha | ha
    · have := h1 a.toNat (List.mem_map.mpr ⟨a, ha, rfl⟩)
      (first | lia | omega)
    · have : a = runs.getLast o.ne := by simpa using ha
      rw [← hl] at this
      (first | lia | omega)
theorem mxN_le {runs : List Int} (o : RunsOk runs) : mxN (eN runs) (zN runs) ≤ 4 := by
  have := maxR_mx o
  have h := (maxR_spec runs 0).2.2
  rcases h with h | h
  · have : maxR runs = 0 := h
    (first | lia | omega)
  · have h2 := (o.bd _ h).2
    have : maxR runs ≤ 4 := h2
    (first | lia | omega)
theorem long_eq (E : List Nat) (z h : Nat) : longF (cntF (E.map (rf h))) (rf h z : Int) = (rf h (mxN E z) : Int) := by
  obtain ⟨h1, h2, h3⟩ := mxN_spec E z
  have mono : ∀ a b : Nat, a ≤ b → rf h a ≤ rf h b := by
    intro a b hab; unfold rf; split <;> split <;> (first | lia | omega)
  have up : (cntF (E.map (rf h))).length ≤ rf h (mxN E z) + 1 := by
    rw [cntF_le]
    intro n hn
    obtain ⟨a, ha, rfl⟩ := List.mem_map.mp hn
    have := mono a _ (h1 a ha)
    unfold mxN; (first | lia | omega)
  have upb := mono z _ h2
  have low : rf h (mxN E z) ≤ rf h z ∨ rf h (mxN E z) + 1 ≤ (cntF (E.map (rf h))).length := by
    rcases h3 with h3 | h3
    · left; unfold mxN; rw [h3]; exact Nat.le_refl _
    · right
      have := (cntF_le (l := E.map (rf h)) (N := (cntF (E.map (rf h))).length)).mp (Nat.le_refl _) (rf h (mxN E z)) (List.mem_map.mpr ⟨_, h3, rfl⟩)
      exact this
  unfold mxN at *
  unfold longF
  split <;> (first | lia | omega)
theorem top_nat {runs : List Int} (o : RunsOk runs) (s : Nat) : topF runs s = ((rf s (mxN (eN runs) (zN runs)) + 1 : Nat) : Int) := by
  unfold topF rf
  rw [maxR_mx o]
  split <;> split <;> (first | lia | omega)
theorem range_ne {runs : List Int} (o : RunsOk runs) (s : Nat) : ((if longF (cntF (endN runs s)) (lastN runs s : Int) > longF (cntF (endN runs 0)) (lastN runs 0 : Int) then longF (cntF (endN runs s)) (lastN runs s : Int) else longF (cntF (endN runs 0)) (lastN runs 0 : Int)) + 1 + 1 - 1).toNat = rf s (mxN (eN runs) (zN runs)) + 1 := by
  rw [endN_eq, endN_eq, lastN_eq o.ne, lastN_eq o.ne, long_eq, long_eq, rf_zero]
  have : mxN (eN runs) (zN runs) ≤ rf s (mxN (eN runs) (zN runs)) := by unfold rf; split <;> (first | lia | omega)
  split <;> (first | lia | omega)
theorem range_ne' {runs : List Int} (o : RunsOk runs) (s : Nat) : ((if longF (cntF (endN runs 0)) (lastN runs 0 : Int) > longF (cntF (endN runs s)) (lastN runs s : Int) then longF (cntF (endN runs 0)) (lastN runs 0 : Int) else longF (cntF (endN runs s)) (lastN runs s : Int)) + 1 + 1 - 1).toNat = rf s (mxN (eN runs) (zN runs)) + 1 := by
  rw [endN_eq, endN_eq, lastN_eq o.ne, lastN_eq o.ne, long_eq, long_eq, rf_zero]
  have : mxN (eN runs) (zN runs) ≤ rf s (mxN (eN runs) (zN runs)) := by unfold rf; split <;> (first | lia | omega)
  split <;> (first | lia | omega)
/-- the moves as triples -/
noncomputable def msF (runs : List Int) (s n : Nat) : List Trip := (rangeKs 1 n).map fun size => (size, nearF runs size, farF runs (metF runs (s + 1)) s size)
theorem msF_moves (runs : List Int) (s n : Nat) : (msF runs s n).map tripD = movesF runs (metF runs (s + 1)) s n := by
  unfold msF movesF
  rw [List.map_map]; rfl
noncomputable def ind0 (runs : List Int) (h : Nat) (size : Int) : Int := indF (cntF (endN runs h)) (lastN runs h : Int) ((runs.length : Int) - 1) size
theorem ind0_nat {runs : List Int} (o : RunsOk runs) (h ts : Nat) (h1 : 1 ≤ ts) : ind0 runs h (ts : Int) = indN (eN runs) (zN runs) h ts := indR_eq o h ts h1
theorem range_nat {n : Nat} {x : Int} (h : x ∈ rangeKs 1 n) : ∃ ts : Nat, x = (ts : Int) ∧ 1 ≤ ts := by
  obtain ⟨a, b⟩ := mem_rangeKs h
  exact ⟨x.toNat, by (first | lia | omega), by (first | lia | omega)⟩
theorem near_ind {runs : List Int} (o : RunsOk runs) {n : Nat} {x : Int} (h : x ∈ rangeKs 1 n) : nearF runs x = ind0 runs 0 x := by
  obtain ⟨ts, rfl, h1⟩ := range_nat h
  rw [near_eq o ts h1, ind0_nat o 0 ts h1]
theorem far_ind {runs : List Int} (o : RunsOk runs) (s : Nat) {n : Nat} {x : Int} (h : x ∈ rangeKs 1 n) : farF runs (metF runs (s + 1)) s x = ind0 runs s x := by
  obtain ⟨ts, rfl, h1⟩ := range_nat h
  rw [far_eq o s ts h1, ind0_nat o s ts h1]
theorem ind_le {runs : List Int} (o : RunsOk runs) (s : Nat) {n : Nat} {x : Int} (h : x ∈ rangeKs 1 n) : ind0 runs 0 x ≤ ind0 runs s x := by
  obtain ⟨ts, rfl, h1⟩ := range_nat h
  rw [ind0_nat o 0 ts h1, ind0_nat o s ts h1, ind_move _ _ s]
  have : 0 ≤ (ts : Int) * (multAll ts s (eN runs) : Int) := Int.mul_nonneg (by (first | lia | omega)) (by (first | lia | omega))
  (first | lia | omega)
theorem filt_trips {l : List Int} {f : Int → Trip} {p : Trip → Bool} {q : Int → Bool} {g : Int → Dat} (hq : ∀ x ∈ l, p (f x) = q x) (hg : ∀ x ∈ l, tripD (f x) = g x) : ((l.map f).filter p).map tripD = (l.filter q).map g := by
  rw [List.filter_map, List.map_map]
  have e : List.filter (p ∘ f) l = List.filter q l := List.filter_congr fun x hx => hq x hx
  rw [e]
  exact List.map_congr_left fun x hx => hg x (List.mem_filter.mp hx).1
theorem eq6a {runs : List Int} (o : RunsOk runs) (s : Nat) : neF (cntF (endN runs 0)) (lastN runs 0 : Int) ((runs.length : Int) - 1) (cntF (endN runs s)) (lastN runs s : Int) ((runs.length : Int) - 1) (rangeKs 1 (rf s (mxN (eN runs) (zN runs)) + 1)) =
    ((msF runs s (rf s (mxN (eN runs) (zN runs)) + 1)).filter fun q => decide (q.2.1 ≠ q.2.2)).map tripD := by
  unfold neF msF
  rw [filt_trips (q := fun ts => !decide (ind0 runs 0 ts = ind0 runs s ts)) (g := witF (cntF (endN runs 0)) (lastN runs 0 : Int) ((runs.length : Int) - 1) (cntF (endN runs s)) (lastN runs s : Int) ((runs.length : Int) - 1))]
  · rfl
  · intro x hx
    dsimp only
    rw [near_ind o hx, far_ind o s hx]
    by_cases q : ind0 runs 0 x = ind0 runs s x <;> simp [q]
  · intro x hx
    unfold tripD witF
    rw [near_ind o hx, far_ind o s hx]; rfl
theorem eq6b {runs : List Int} (o : RunsOk runs) (s : Nat) : nlF (cntF (endN runs 0)) (lastN runs 0 : Int) ((runs.length : Int) - 1) (cntF (endN runs s)) (lastN runs s : Int) ((runs.length : Int) - 1) (rangeKs 1 (rf s (mxN (eN runs) (zN runs)) + 1)) =
    ((msF runs s (rf s (mxN (eN runs) (zN runs)) + 1)).filter fun q => decide (q.2.1 = q.2.2)).map tripD := by
  unfold nlF msF
  rw [filt_trips (q := fun ts => decide (ind0 runs 0 ts ≥ ind0 runs s ts)) (g := witF (cntF (endN runs 0)) (lastN runs 0 : Int) ((runs.length : Int) - 1) (cntF (endN runs s)) (lastN runs s : Int) ((runs.length : Int) - 1))]
  · rfl
  · intro x hx
    dsimp only
    rw [near_ind o hx, far_ind o s hx]
    have := ind_le o s hx
    refine decide_eq_decide.mpr ?_
    (first | lia | omega)
  · intro x hx
    unfold tripD witF
    rw [near_ind o hx, far_ind o s hx]; rfl
theorem eq6c {runs : List Int} (o : RunsOk runs) (s : Nat) : nlF (cntF (endN runs s)) (lastN runs s : Int) ((runs.length : Int) - 1) (cntF (endN runs 0)) (lastN runs 0 : Int) ((runs.length : Int) - 1) (rangeKs 1 (rf s (mxN (eN runs) (zN runs)) + 1)) =
    ((msF runs s (rf s (mxN (eN runs) (zN runs)) + 1)).map swapT).map tripD := by
  unfold nlF msF
  rw [List.filter_eq_self.mpr, List.map_map, List.map_map]
  · refine List.map_congr_left fun x hx => ?_
    show witF _ _ _ _ _ _ x = tripD (swapT (x, _, _))
    unfold tripD witF swapT
    dsimp only
    rw [near_ind o hx, far_ind o s hx]; rfl
  · intro x hx
    exact decide_eq_true (ind_le o s hx)
end Mine
end
section
open PySem PySem.W PyProof.Rows
namespace Mine
theorem fresh_PY2 : True := by
  k_with_none
  w_top off
  trivial
section
variable {runs : List Int} {s : Nat} {W1 W2 : WsT}
theorem pageWs {W : WsT} {h : Nat} (o : RunsOk runs) (hh : h ≤ 3) (p : PageOk runs W h) : WsOk W (cntF (endN runs h)) ∧ W.b ≤ 50 ∧ (cntF (endN runs h)).length ≤ 50 := by
  have hle : ∀ n ∈ endN runs h, n ≤ 7 := by
    intro n hn
    rw [endN_eq] at hn
    obtain ⟨a, ha, rfl⟩ := List.mem_map.mp hn
    have := eN_le o a ha
    unfold rf; split <;> (first | lia | omega)
  have hlen : (cntF (endN runs h)).length ≤ 8 := cntF_le.mpr fun n hn => by have := hle n hn; (first | lia | omega)
  refine ⟨⟨p.vs, by (first | lia | omega), ?_⟩, ?_, by (first | lia | omega)⟩
  · have key : ∀ (l : List Nat) (c : List Int) (K : Int), (∀ i, 0 ≤ c.getD i 0 ∧ c.getD i 0 ≤ K) → ∀ i, 0 ≤ (l.foldl (fun (c : List Int) (n : Nat) => addC c (n : Int)) c).getD i 0 ∧ (l.foldl (fun (c : List Int) (n : Nat) => addC c (n : Int)) c).getD i 0 ≤ K + l.length := by
      intro l
      induction l with
      | nil => intro c K hc i; have := hc i; simp only [List.foldl_nil, List.length_nil]; (first | lia | omega)
      | cons n l ih =>
        intro c K hc i
        have hg : ∀ i, 0 ≤ (cntGrow c (n : Int)).getD i 0 ∧ (cntGrow c (n : Int)).getD i 0 ≤ K := by
          intro i
          unfold cntGrow
          split
          · rcases Nat.lt_or_ge i c.length with hi | hi
            · rw [List.getD_eq_getElem?_getD, List.getElem?_append_left hi, ← List.getD_eq_getElem?_getD]; exact hc i
            · have h0 := hc c.length
              rw [List.getD_eq_getElem?_getD, List.getElem?_append_right hi]
              have hK : 0 ≤ K := by (first | lia | omega)
              rcases Nat.lt_or_ge (i - c.length) (((n : Int) - (c.length : Int) + 1).toNat) with q | q
              · rw [List.getElem?_replicate, if_pos q]; exact ⟨Int.le_refl _, hK⟩
              · rw [List.getElem?_replicate, if_neg (by (first | lia | omega))]; exact ⟨Int.le_refl _, hK⟩
          · exact hc i
        have ha : ∀ i, 0 ≤ (addC c (n : Int)).getD i 0 ∧ (addC c (n : Int)).getD i 0 ≤ K + 1 := by
          intro i
          unfold addC
          rw [List.getD_eq_getElem?_getD, List.getElem?_set]
          have h1 := hg i
          have h2 := hg ((n : Int).toNat)
          split
          · split
            · rw [Option.getD_some]; (first | lia | omega)
            · rw [Option.getD_none]; (first | lia | omega)
          · rw [← List.getD_eq_getElem?_getD]; (first | lia | omega)
        have := ih _ _ ha i
        rw [List.foldl_cons, List.length_cons]
        (first | lia | omega)
    intro i
    have := key (endN runs h) [] 0 (by intro i; simp) i
    have hel : (endN runs h).length ≤ 3 := by rw [endN_eq, List.length_map]; exact eN_len3 o
    unfold cntF
    (first | lia | omega)
  · rw [p.b, lastN_eq o.ne]
    have := zN_le o
    unfold rf; split <;> (first | lia | omega)
theorem last_getD : ∀ {l : List Nat} (h : l ≠ []), l.getLast h = l.getLastD 0
  | [], h => absurd rfl h
  | a :: r, h => by rw [List.getLastD_eq_getLast?, List.getLast?_cons]; simp [List.getLast_eq_getLastD]
theorem sum_rows (o : RunsOk runs) (h : Nat) : (lens (psF runs h)).sum = sumN ((eN runs).map (rf h)) + (rf h (zN runs) : Int) := by
  unfold psF
  rw [lens_wds, sum_filter]
  have e1 : rowsN runs h = (eN runs).map (rf h) ++ [rf h (zN runs)] := by
    have q := List.dropLast_concat_getLast (rowsN_ne (h := h) o)
    have q1 : (rowsN runs h).dropLast = (eN runs).map (rf h) := endN_eq runs h
    have q2 := lastN_eq o.ne h
    rw [q1] at q
    rw [← q]
    congr 2
    rw [← q2]
    unfold lastN
    rw [last_getD (rowsN_ne o)]
  rw [e1]
  simp [sumN]
theorem sum_rf (E : List Nat) (s : Nat) : sumN E ≤ sumN (E.map (rf s)) ∧ ((∃ n ∈ E, n ≠ 0) → 0 < s → sumN E < sumN (E.map (rf s))) ∧ ((∀ n ∈ E, n = 0) → sumN (E.map (rf s)) = sumN E) := by
  induction E with
  | nil => simp [sumN]
  | cons n l ih =>
    obtain ⟨h1, h2, h3⟩ := ih
    simp only [sumN, List.map_cons, List.sum_cons] at *
    have hb := rf_bh n s
    refine ⟨by (first | lia | omega), ?_, ?_⟩
    · rintro ⟨m, hm, hm0⟩ hs
      rcases List.mem_cons.mp hm with rfl | hm
      · have : bhN m s = s := by unfold bhN; rw [if_neg hm0]
        (first | lia | omega)
      · have := h2 ⟨m, hm, hm0⟩ hs; (first | lia | omega)
    · intro hall
      have hn := hall n (by simp)
      have := h3 fun m hm => hall m (by simp [hm])
      have : bhN n s = 0 := by unfold bhN; rw [if_pos hn]
      (first | lia | omega)
theorem all_zero (E : List Nat) (z : Nat) : mxN E z = 0 ↔ (∀ n ∈ E, n = 0) ∧ z = 0 := by
  obtain ⟨h1, h2, h3⟩ := mxN_spec E z
  unfold mxN
  constructor
  · intro h
    rw [h] at h1 h2
    exact ⟨fun n hn => by have := h1 n hn; (first | lia | omega), by (first | lia | omega)⟩
  · rintro ⟨ha, hz⟩
    rcases h3 with h3 | h3
    · (first | lia | omega)
    · exact ha _ h3
theorem n_facts (o : RunsOk runs) (p1 : PageOk runs W1 0) (p2 : PageOk runs W2 s) (hs : 0 < s) : W1.n ≤ W2.n ∧ (mxN (eN runs) (zN runs) ≠ 0 → W1.n < W2.n) ∧ (mxN (eN runs) (zN runs) = 0 → W1.n = W2.n) := by
  rw [p1.n, p2.n, sum_rows o, sum_rows o, map_rf_zero, rf_zero]
  obtain ⟨h1, h2, h3⟩ := sum_rf (eN runs) s
  have hz := rf_bh (zN runs) s
  refine ⟨by (first | lia | omega), ?_, ?_⟩
  · intro hm
    by_cases q : zN runs = 0
    · have : ∃ n ∈ eN runs, n ≠ 0 := by
        apply Classical.byContradiction
        intro hcon
        exact hm ((all_zero _ _).mpr ⟨fun n hn => Classical.byContradiction fun h => hcon ⟨n, hn, h⟩, q⟩)
      have := h2 this hs
      (first | lia | omega)
    · have : bhN (zN runs) s = s := by unfold bhN; rw [if_neg q]
      (first | lia | omega)
  · intro hm
    obtain ⟨ha, hz0⟩ := (all_zero _ _).mp hm
    have e1 := h3 ha
    have e2 : bhN (zN runs) s = 0 := by unfold bhN; rw [if_pos hz0]
    (first | lia | omega)
theorem ended_zero (h : Nat) : endedI runs h = [] ↔ ∀ n ∈ eN runs, n = 0 := by
  unfold endedI
  rw [List.map_eq_nil_iff, List.filter_eq_nil_iff, endN_eq]
  constructor
  · intro q n hn
    have := q (rf h n) (List.mem_map.mpr ⟨n, hn, rfl⟩)
    simp at this
    unfold rf at this
    split at this <;> (first | lia | omega)
  · intro q n hn
    obtain ⟨a, ha, rfl⟩ := List.mem_map.mp hn
    have := q a ha
    simp [rf, this]
theorem mults_none (ts n : Nat) : ∀ s, n + s < ts → mults ts n s = 0
  | 0, _ => rfl
  | s + 1, h => by
    rw [mults, mults_none ts n s (by (first | lia | omega)), if_neg]
    intro hd
    have := Nat.le_of_dvd (by (first | lia | omega)) hd
    (first | lia | omega)
theorem multAll_none (E : List Nat) (ts s : Nat) (h : ∀ n ∈ E, n ≠ 0 → n + s < ts) : multAll ts s E = 0 := by
  unfold multAll
  induction E with
  | nil => rfl
  | cons n l ih =>
    simp only [List.map_cons, List.sum_cons]
    rw [ih fun m hm => h m (by simp [hm])]
    unfold multR
    split
    · rfl
    · rename_i hn
      rw [mults_none ts n s (h n (by simp) hn)]
theorem less_fact (o : RunsOk runs) (p1 : PageOk runs W1 0) (p2 : PageOk runs W2 s) (hs : 0 < s) : lessF W1 W2 (cntF (endN runs 0)) (cntF (endN runs s)) = decide (0 < behindF runs s) := by
  obtain ⟨h1, h2, h3⟩ := n_facts o p1 p2 hs
  have hbh := bh_eq o s
  by_cases hm : mxN (eN runs) (zN runs) = 0
  · have e := h3 hm
    obtain ⟨_, hz0⟩ := (all_zero _ _).mp hm
    have : bhN (zN runs) s = 0 := by unfold bhN; rw [if_pos hz0]
    unfold lessF
    rw [if_pos (by (first | lia | omega))]
    symm
    exact decide_eq_false (by (first | lia | omega))
  · have e := h2 hm
    unfold lessF
    rw [if_neg (by (first | lia | omega)), p1.s, p2.s]
    by_cases hE : ∀ n ∈ eN runs, n = 0
    · have e1 := (ended_zero (runs := runs) 0).mpr hE
      have e2 := (ended_zero (runs := runs) s).mpr hE
      rw [e1, e2]
      have hz : zN runs ≠ 0 := fun hz => hm ((all_zero _ _).mpr ⟨hE, hz⟩)
      have : bhN (zN runs) s = s := by unfold bhN; rw [if_neg hz]
      simp only [decide_true, Bool.and_self, if_true]
      rw [p1.nt, p2.nt]
      exact decide_eq_decide.mpr ⟨fun _ => by (first | lia | omega), fun _ => Int.le_refl _⟩
    · have e1 : ¬ endedI runs 0 = [] := fun h => hE ((ended_zero (runs := runs) 0).mp h)
      rw [decide_eq_false e1, Bool.false_and]
      simp only [Bool.false_eq_true, if_false]
      rw [p1.b, p1.nt, p2.b, p2.nt]
      have hN : ((if longF (cntF (endN runs s)) (lastN runs s : Int) > longF (cntF (endN runs 0)) (lastN runs 0 : Int) then longF (cntF (endN runs s)) (lastN runs s : Int) else longF (cntF (endN runs 0)) (lastN runs 0 : Int)) + 1 + 1 - 2).toNat = rf s (mxN (eN runs) (zN runs)) := by
        have := range_ne o s
        (first | lia | omega)
      rw [hN]
      have hrf : rf s (mxN (eN runs) (zN runs)) = mxN (eN runs) (zN runs) + s := by unfold rf; rw [if_neg hm]
      rw [hrf]
      by_cases hz : zN runs = 0
      · have hb0 : bhN (zN runs) s = 0 := by unfold bhN; rw [if_pos hz]
        rw [decide_eq_false (by (first | lia | omega) : ¬ 0 < behindF runs s), List.all_eq_false]
        refine ⟨((mxN (eN runs) (zN runs) + s + 1 : Nat) : Int), kre_mem (by (first | lia | omega)) (by (first | lia | omega)), ?_⟩
        have g0 := ind0_nat o 0 (mxN (eN runs) (zN runs) + s + 1) (by (first | lia | omega))
        have gs := ind0_nat o s (mxN (eN runs) (zN runs) + s + 1) (by (first | lia | omega))
        unfold ind0 at g0 gs
        rw [g0, gs, ind_move _ _ s, multAll_none, hb0]
        · simp
        · intro n hn _
          have := (mxN_spec (eN runs) (zN runs)).1 n hn
          unfold mxN; (first | lia | omega)
      · have hb0 : bhN (zN runs) s = s := by unfold bhN; rw [if_neg hz]
        rw [decide_eq_true (by (first | lia | omega) : 0 < behindF runs s), List.all_eq_true]
        intro ts hts
        obtain ⟨ht1, ht2⟩ := mem_rangeKs hts
        obtain ⟨t, rfl⟩ : ∃ t : Nat, ts = (t : Int) := ⟨ts.toNat, by (first | lia | omega)⟩
        refine decide_eq_true ?_
        have g0 := ind0_nat o 0 t (by (first | lia | omega))
        have gs := ind0_nat o s t (by (first | lia | omega))
        unfold ind0 at g0 gs
        rw [g0, gs, ind_move _ _ s, hb0]
        have : 0 ≤ (t : Int) * (multAll t s (eN runs) : Int) := Int.mul_nonneg (by (first | lia | omega)) (by (first | lia | omega))
        (first | lia | omega)
theorem less_back (o : RunsOk runs) (p1 : PageOk runs W1 0) (p2 : PageOk runs W2 s) (hs : 0 < s) : lessF W2 W1 (cntF (endN runs s)) (cntF (endN runs 0)) = false := by
  obtain ⟨h1, -, -⟩ := n_facts o p1 p2 hs
  unfold lessF
  rw [if_pos (by (first | lia | omega))]
theorem equal_fact (o : RunsOk runs) (p1 : PageOk runs W1 0) (p2 : PageOk runs W2 s) (hs : 0 < s) : (decide (cntF (endN runs 0) = cntF (endN runs s)) && decide (W1.b = W2.b)) = decide (maxR runs = 0) := by
  rw [p1.b, p2.b, lastN_eq o.ne, lastN_eq o.ne, maxR_mx o]
  have hz := rf_bh (zN runs) s
  by_cases hm : mxN (eN runs) (zN runs) = 0
  · obtain ⟨ha, hz0⟩ := (all_zero _ _).mp hm
    have hb0 : bhN (zN runs) s = 0 := by unfold bhN; rw [if_pos hz0]
    have e : (eN runs).map (rf s) = (eN runs).map (rf 0) := List.map_congr_left fun n hn => by rw [ha n hn]; rfl
    rw [endN_eq, endN_eq, e, rf_zero, hm, decide_eq_true rfl, decide_eq_true (by (first | lia | omega))]; rfl
  · rw [decide_eq_false (by (first | lia | omega) : ¬ ((mxN (eN runs) (zN runs) : Nat) : Int) = 0)]
    by_cases hzz : zN runs = 0
    · have hlen : (cntF (endN runs 0)).length ≠ (cntF (endN runs s)).length := by
        have l0 := long_eq (eN runs) (zN runs) 0
        have ls := long_eq (eN runs) (zN runs) s
        rw [← endN_eq] at l0 ls
        have hb0 : bhN (zN runs) s = 0 := by unfold bhN; rw [if_pos hzz]
        have r1 : rf s (mxN (eN runs) (zN runs)) = mxN (eN runs) (zN runs) + s := by unfold rf; rw [if_neg hm]
        rw [rf_zero, rf_zero] at l0
        rw [r1] at ls
        unfold longF at l0 ls
        split at l0 <;> split at ls <;> (first | lia | omega)
      rw [decide_eq_false (fun h => hlen (congrArg List.length h))]; rfl
    · have hb0 : bhN (zN runs) s = s := by unfold bhN; rw [if_neg hzz]
      rw [rf_zero, decide_eq_false (by (first | lia | omega) : ¬ ((zN runs : Nat) : Int) = ((rf s (zN runs) : Nat) : Int)), Bool.and_false]
end
end Mine
end
section
open PySem PySem.W PyProof.Rows
namespace Mine
theorem fresh_PY3 : True := by
  k_with_none
  w_top off
  trivial
theorem metN_bound (E : List Nat) (hE : ∀ n ∈ E, n ≤ 4) (hl : E.length ≤ 3) : ∀ s, s ≤ 3 → (∀ n ∈ metN E s, 1 ≤ n ∧ n ≤ 7) ∧ (metN E s).length ≤ 3 * s
  | 0, _ => by simp [metN]
  | s + 1, hs => by
    obtain ⟨h1, h2⟩ := metN_bound E hE hl s (by (first | lia | omega))
    constructor
    · intro n hn
      rw [metN] at hn
      rcases List.mem_append.mp hn with hn | hn
      · exact h1 n hn
      · obtain ⟨hn, h0⟩ := List.mem_filter.mp hn
        obtain ⟨a, ha, rfl⟩ := List.mem_map.mp hn
        have := hE a ha
        have h0' : rf (s + 1) a ≠ 0 := by simpa using h0
        by_cases ha0 : a = 0
        · exact absurd (by unfold rf; rw [if_pos ha0]) h0'
        · have : rf (s + 1) a = a + (s + 1) := by unfold rf; rw [if_neg ha0]
          (first | lia | omega)
    · rw [metN, List.length_append]
      have := List.length_filter_le (fun n => n != 0) (E.map (rf (s + 1)))
      rw [List.length_map] at this
      (first | lia | omega)
section
variable {runs : List Int} {s : Nat}
theorem metF_bound (o : RunsOk runs) (hs : s ≤ 3) : (∀ x ∈ metF runs (s + 1), 0 ≤ x ∧ x ≤ 7) ∧ (metF runs (s + 1)).length ≤ 9 := by
  rw [metF_eq]
  obtain ⟨h1, h2⟩ := metN_bound (eN runs) (eN_le o) (eN_len3 o) s hs
  constructor
  · intro x hx
    obtain ⟨n, hn, rfl⟩ := List.mem_map.mp hx
    have := h1 n hn; (first | lia | omega)
  · rw [List.length_map]; (first | lia | omega)
theorem exp_cnt (o : RunsOk runs) (p : Nat) (hp : 1 ≤ p) : (ind0 runs s (p : Int) - ind0 runs 0 (p : Int) - behindF runs s).fdiv (p : Int) = cntM (metF runs (s + 1)) (p : Int) := by
  rw [ind0_nat o s p hp, ind0_nat o 0 p hp, bh_eq o, ind_move _ _ s, cnt_eq]
  have e : indN (eN runs) (zN runs) 0 p + (p : Int) * (multAll p s (eN runs) : Int) + (bhN (zN runs) s : Int) - indN (eN runs) (zN runs) 0 p - (bhN (zN runs) s : Int) = (p : Int) * (multAll p s (eN runs) : Int) := by (first | lia | omega)
  rw [e, Int.fdiv_eq_ediv_of_nonneg _ (by (first | lia | omega))]
  exact Int.mul_ediv_cancel_left _ (by (first | lia | omega))
theorem cntM_le (o : RunsOk runs) (hs : s ≤ 3) (p : Int) : 0 ≤ cntM (metF runs (s + 1)) p ∧ cntM (metF runs (s + 1)) p ≤ 12 := by
  have := (metF_bound o hs).2
  have h2 := List.length_filter_le (fun l => decide (Int.fmod l p = 0)) (metF runs (s + 1))
  unfold cntM; (first | lia | omega)
theorem exp_ok (o : RunsOk runs) (hs : s ≤ 3) : ∀ p ∈ [(2 : Int), 4, 3, 5, 7], 0 ≤ (ind0 runs s p - ind0 runs 0 p - behindF runs s).fdiv p ∧ (ind0 runs s p - ind0 runs 0 p - behindF runs s).fdiv p ≤ 12 := by
  intro p hp
  have key : ∀ q : Nat, 1 ≤ q → 0 ≤ (ind0 runs s (q : Int) - ind0 runs 0 (q : Int) - behindF runs s).fdiv (q : Int) ∧ (ind0 runs s (q : Int) - ind0 runs 0 (q : Int) - behindF runs s).fdiv (q : Int) ≤ 12 := by
    intro q hq
    rw [exp_cnt o q hq]; exact cntM_le o hs _
  simp only [List.mem_cons, List.not_mem_nil, or_false] at hp
  rcases hp with rfl | rfl | rfl | rfl | rfl
  · exact key 2 (by decide)
  · exact key 4 (by decide)
  · exact key 3 (by decide)
  · exact key 5 (by decide)
  · exact key 7 (by decide)
/-- how often p divides, among a list -/
noncomputable def dv (p : Nat) (l : List Nat) : Nat := (l.filter fun n => decide (p ∣ n)).length
theorem dv_cons (p n : Nat) (l : List Nat) : dv p (n :: l) = (if p ∣ n then 1 else 0) + dv p l := by
  unfold dv
  by_cases h : p ∣ n
  · rw [List.filter_cons_of_pos (by simpa using h), if_pos h, List.length_cons]; (first | lia | omega)
  · rw [List.filter_cons_of_neg (by simpa using h), if_neg h]; (first | lia | omega)
theorem one_legendre : ∀ n : Nat, n ≤ 7 → 1 ≤ n → 2 ^ (if 2 ∣ n then 1 else 0) * 2 ^ (if 4 ∣ n then 1 else 0) * 3 ^ (if 3 ∣ n then 1 else 0) * 5 ^ (if 5 ∣ n then 1 else 0) * 7 ^ (if 7 ∣ n then 1 else 0) = n := by decide
theorem legendre : ∀ l : List Nat, (∀ n ∈ l, 1 ≤ n ∧ n ≤ 7) → 2 ^ dv 2 l * 2 ^ dv 4 l * 3 ^ dv 3 l * 5 ^ dv 5 l * 7 ^ dv 7 l = l.foldr (fun n p => n * p) 1
  | [], _ => rfl
  | n :: l, h => by
    have ih := legendre l fun m hm => h m (by simp [hm])
    obtain ⟨h1, h2⟩ := h n (by simp)
    have h3 := one_legendre n h2 h1
    simp only [dv_cons, Nat.pow_add, List.foldr_cons]
    rw [← ih]
    generalize 2 ^ (if 2 ∣ n then 1 else 0) = a at *
    generalize 2 ^ (if 4 ∣ n then 1 else 0) = b at *
    generalize 3 ^ (if 3 ∣ n then 1 else 0) = c at *
    generalize 5 ^ (if 5 ∣ n then 1 else 0) = d at *
    generalize 7 ^ (if 7 ∣ n then 1 else 0) = e at *
    generalize 2 ^ dv 2 l = a'
    generalize 2 ^ dv 4 l = b'
    generalize 3 ^ dv 3 l = c'
    generalize 5 ^ dv 5 l = d'
    generalize 7 ^ dv 7 l = e'
    rw [← h3]
    ac_rfl
theorem prod_cast (l : List Nat) : ∀ z : Nat, (l.map fun n : Nat => (n : Int)).foldl (fun p x => p * x) (z : Int) = ((z * l.foldr (fun n p => n * p) 1 : Nat) : Int) := by
  induction l with
  | nil => intro z; simp
  | cons n l ih =>
    intro z
    rw [List.map_cons, List.foldl_cons, ← Int.natCast_mul, ih, List.foldr_cons, Nat.mul_assoc]
theorem cnt_dv (l : List Nat) (p : Nat) : (cntM (l.map fun n : Nat => (n : Int)) (p : Int)).toNat = dv p l := by
  rw [cnt_map]; rfl
theorem legendre_fact (o : RunsOk runs) (hs : s ≤ 3) :
    1 * 2 ^ ((ind0 runs s 2 - ind0 runs 0 2 - behindF runs s).fdiv 2).toNat * 2 ^ ((ind0 runs s 4 - ind0 runs 0 4 - behindF runs s).fdiv 4).toNat * 3 ^ ((ind0 runs s 3 - ind0 runs 0 3 - behindF runs s).fdiv 3).toNat * 5 ^ ((ind0 runs s 5 - ind0 runs 0 5 - behindF runs s).fdiv 5).toNat * 7 ^ ((ind0 runs s 7 - ind0 runs 0 7 - behindF runs s).fdiv 7).toNat = prodL (metF runs (s + 1)) := by
  have k2 := exp_cnt (s := s) o 2 (by decide)
  have k4 := exp_cnt (s := s) o 4 (by decide)
  have k3 := exp_cnt (s := s) o 3 (by decide)
  have k5 := exp_cnt (s := s) o 5 (by decide)
  have k7 := exp_cnt (s := s) o 7 (by decide)
  simp only [Int.cast_ofNat_Int] at k2 k4 k3 k5 k7
  rw [k2, k4, k3, k5, k7]
  obtain ⟨h1, -⟩ := metN_bound (eN runs) (eN_le o) (eN_len3 o) s hs
  rw [metF_eq]
  have c2 := cnt_dv (metN (eN runs) s) 2
  have c4 := cnt_dv (metN (eN runs) s) 4
  have c3 := cnt_dv (metN (eN runs) s) 3
  have c5 := cnt_dv (metN (eN runs) s) 5
  have c7 := cnt_dv (metN (eN runs) s) 7
  simp only [Int.cast_ofNat_Int] at c2 c4 c3 c5 c7
  rw [c2, c4, c3, c5, c7]
  have hl := legendre (metN (eN runs) s) h1
  unfold prodL
  have hp := prod_cast (metN (eN runs) s) 1
  simp only [Int.cast_ofNat_Int] at hp
  rw [hp, ← hl]
  simp
/-- Hermite -/
theorem herm_one : ∀ n : Nat, n ≤ 4 → ∀ s : Nat, s ≤ 3 → ((List.range (s + 1)).map fun j => rf j n / (s + 1)).sum = n := by decide +kernel
theorem herm_last : ∀ z : Nat, z ≤ 4 → ∀ s : Nat, s ≤ 3 → ((List.range (s + 1)).map fun j => (rf j z : Int)).sum = ((s : Int) + 1) * z + (if 0 < z then (((s : Int) + 1) * ((s : Int) + 1 - 1)).fdiv 2 else 0) := by decide +kernel
theorem sum_add (f g : Nat → Int) : ∀ l : List Nat, (l.map fun j => f j + g j).sum = (l.map f).sum + (l.map g).sum
  | [] => rfl
  | a :: l => by simp only [List.map_cons, List.sum_cons, sum_add f g l]; (first | lia | omega)
theorem sum_castN (f : Nat → Nat) : ∀ l : List Nat, (l.map fun j => ((f j : Nat) : Int)).sum = (((l.map f).sum : Nat) : Int)
  | [] => rfl
  | a :: l => by simp only [List.map_cons, List.sum_cons, sum_castN f l]; (first | lia | omega)
theorem sum_zeroI : ∀ l : List Nat, (l.map fun _ => (0 : Int)).sum = 0
  | [] => rfl
  | a :: l => by simp only [List.map_cons, List.sum_cons, sum_zeroI l]; rfl
theorem sum_mulI (c : Int) (f : Nat → Int) : ∀ l : List Nat, (l.map fun j => c * f j).sum = c * (l.map f).sum
  | [] => by simp
  | a :: l => by simp only [List.map_cons, List.sum_cons, sum_mulI c f l, Int.mul_add]
theorem sum_constI (c : Int) : ∀ l : List Nat, (l.map fun _ => c).sum = (l.length : Int) * c
  | [] => by simp
  | a :: l => by simp only [List.map_cons, List.sum_cons, sum_constI c l, List.length_cons]; rw [show ((l.length + 1 : Nat) : Int) = (l.length : Int) + 1 from rfl, Int.add_mul]; (first | lia | omega)
theorem sum_swap (E : List Nat) (ts : Nat) (l : List Nat) : (l.map fun j => divs ts (E.map (rf j))).sum = (E.map fun n => (((l.map fun j => rf j n / ts).sum : Nat) : Int)).sum := by
  induction E with
  | nil => simp only [List.map_nil, divs_nil, List.sum_nil]; exact sum_zeroI l
  | cons n E ih =>
    simp only [List.map_cons, List.sum_cons, divs_cons]
    rw [sum_add (fun j => ((rf j n / ts : Nat) : Int)) (fun j => divs ts (E.map (rf j))), ih, sum_castN (fun j => rf j n / ts)]
theorem hermite_fact (o : RunsOk runs) (hs : s ≤ 3) : (indAll runs ((s : Int) + 1) (s + 1)).sum = dueF runs ((s : Int) + 1) := by
  unfold indAll
  have e1 : (List.range (s + 1)).map (indR runs ((s : Int) + 1)) = (List.range (s + 1)).map fun j => (rf j (zN runs) : Int) + (((s + 1 : Nat) : Int) * divs (s + 1) ((eN runs).map (rf j)) + ((s + 1 : Nat) : Int) * ((eN runs).length : Int)) := by
    refine List.map_congr_left fun j _ => ?_
    have := indR_eq o j (s + 1) (by (first | lia | omega))
    rw [show ((s : Int) + 1) = ((s + 1 : Nat) : Int) from rfl, this]
    unfold indN
    rw [Int.mul_add]
  rw [e1, sum_add (fun j => (rf j (zN runs) : Int)) (fun j => ((s + 1 : Nat) : Int) * divs (s + 1) ((eN runs).map (rf j)) + ((s + 1 : Nat) : Int) * ((eN runs).length : Int)),
    sum_add (fun j => ((s + 1 : Nat) : Int) * divs (s + 1) ((eN runs).map (rf j))) (fun _ => ((s + 1 : Nat) : Int) * ((eN runs).length : Int)),
    sum_mulI, sum_constI, sum_swap, herm_last _ (zN_le o) s hs, List.length_range]
  have e2 : ((eN runs).map fun n => ((((List.range (s + 1)).map fun j => rf j n / (s + 1)).sum : Nat) : Int)).sum = sumN (eN runs) := by
    unfold sumN
    congr 1
    refine List.map_congr_left fun n hn => ?_
    rw [herm_one n (eN_le o n hn) s hs]
  rw [e2]
  unfold dueF
  have e3 : runs.sum = sumN (eN runs) + (zN runs : Int) := by
    have e : runs = runs.dropLast ++ [runs.getLast o.ne] := (List.dropLast_concat_getLast o.ne).symm
    have e4 : runs.dropLast.sum = sumN (eN runs) := by
      unfold sumN eN
      rw [List.map_map]
      congr 1
      conv => lhs; rw [← List.map_id runs.dropLast]
      refine List.map_congr_left fun r hr => ?_
      have := (o.bd r (List.dropLast_subset _ hr)).1
      show r = ((r.toNat : Nat) : Int)
      (first | lia | omega)
    rw [← zN_cast o, lastR_last o.ne, ← e4]
    conv => lhs; rw [e]
    simp
  have e5 : (runs.length : Int) - 1 = ((eN runs).length : Int) := by have := eN_len o; (first | lia | omega)
  rw [e3, e5, zN_cast o]
  have e6 : (0 < zN runs) = ((0 : Int) < (zN runs : Int)) := propext ⟨fun h => by (first | lia | omega), fun h => by (first | lia | omega)⟩
  have e7 : ((s + 1 : Nat) : Int) = (s : Int) + 1 := rfl
  rw [e7]
  simp only [Int.mul_add]
  by_cases q : 0 < zN runs
  · rw [if_pos q, if_pos (by (first | lia | omega))]; (first | lia | omega)
  · rw [if_neg q, if_neg (by (first | lia | omega))]; (first | lia | omega)
end
end Mine
end
section
open PySem PySem.W PyProof.Rows
namespace Mine
theorem fresh_L25 : True := by
  k_with_none
  w_top off
  trivial
theorem lawTail (w : World) (mean : ExcName → Option Value) (mg mb : Str → Option Value) (h₀ : Heap) (L fa rl k pl : Nat) (cd : Value) (M : Str → Option Value) (s : Shared) (Q : Flow → Shared → Prop) (Ea Eb : Value → Shared → Prop)
    (us : List Value) (runs : List Int) (snd : Nat) (t2 : Tok) (oZ oN : Obj) (cZ : Option Value) (nx : List (Addr × Obj))
    (hB : Below callerA h₀ [] h₀) (hK : (hd.heap_39 w.params).In h₀) (hT : Top topProg LooseL mean mg mb h₀) (hch : CodeHd h₀ 176 172)
    (hF : Fr h₀ L s.heap M) (hN : News h₀ L s.heap nx) (hJ : HopInv w.params L pl rl k us oZ oN runs (some (.int (snd : Int) t2)) (snd + 1) M nx)
    (hZ : oZ.data = .cell cZ) (hNn : oN.data = .cell (some (.ref rl))) (hL : 172 < L) (hLr : L + 1 + 1 + 1 + 1 < rl) (hrp : rl < pl)
    (hI : IntsAre us runs) (o : RunsOk runs) (hs : 1 ≤ snd ∧ snd ≤ 3)
    (hc : ∀ (M' : Str → Option Value) (nw : List (Addr × Obj)) (h' : Heap) (tk' : Nat), Fr h₀ L h' M' → News h₀ L h' nw → (∃ ps : Array Value, ((172 : Nat), tabObj ps) ∈ nw) → Q (.ret (.bool true)) { s with heap := h', toks := tk' }) :
    wpAny (model Challenge.rw_pe0179_01.row.prog w) (lawA L fa cd) (execs (lawDef.body.drop 9) (lawEnv L fa cd)) Q (fun e s1 => lawE w L fa cd Ea Eb e s1) s := by
  refine cps ?_
  intro C9 hC9
  obtain ⟨pk, ml, mk, mus, Ws, oR, oH, cR, cH, tm, Tr, rfl, ⟨hR, hH⟩, ⟨hm, hm2, -, hm4⟩, hO, ⟨hrl, hml, hIm, h172⟩, ⟨hWl, hWs⟩, hTab⟩ := hJ
  refine hC9 ?_
  clear hC9 C9
  obtain ⟨hs1, hs3⟩ := hs
  obtain ⟨W0, hW0⟩ : ∃ W, Ws[0]? = some W := ⟨_, List.getElem?_eq_getElem (by omega)⟩
  obtain ⟨Wn, hWn⟩ : ∃ W, Ws[snd]? = some W := ⟨_, List.getElem?_eq_getElem (by omega)⟩
  obtain ⟨p0, m0⟩ := hWs 0 W0 hW0
  obtain ⟨pn, mn⟩ := hWs snd Wn hWn
  obtain ⟨o0, b0, l0⟩ := pageWs o (by decide) p0
  obtain ⟨on, bn, ln⟩ := pageWs o hs3 pn
  have hmx := mxN_le o
  have hrfm : rf snd (mxN (eN runs) (zN runs)) ≤ 7 := by unfold rf; split <;> omega
  obtain ⟨mb1, mb2⟩ := metF_bound (s := snd) o hs3
  have hOrl := hO _ hrl
  have hOml := hO _ hml
  refine cutE (show lawDef.body.drop 9 = (lawDef.body.drop 9).take 5 ++ lawDef.body.drop 14 from rfl) ?_
  refine seg4 (rest := lawDef.body.drop 14) w mean mg mb h₀ L fa rl k pl pk W0.x Wn.x cd M s Q Ea Eb us (Ws.map fun W => Value.ref W.x) runs snd t2 oZ oR oH oN Tr hB hK hT hch hF hm2 hm4 (sub_news hN ?_) hNn hI o ⟨hs1, hs3⟩ (by rw [List.getElem?_map, hW0]; rfl) (by rw [List.getElem?_map, hWn]; rfl) ?_
  · walk_at "sub"
  intro zl bh tp tb tt M1 h1 tk1 hbh htp F1 e1 e2 e3 e4 e5 e6 N1 hzl
  have hzTr : ∀ p ∈ Tr, p.1 < zl := fun p hp => tb_ltOf hzl p (by first | walk_at "subm" | simp [hp])
  refine cps ?_
  intro C9 hC9
  obtain ⟨z1, z2, z3, z4, z5, z6, -⟩ := hzl
  refine hC9 ?_
  clear hC9 C9
  dsimp only at z1 z2 z3 z4 z5 z6
  have hmlz : ml < zl := hzTr _ hml
  have m1 : M1 (Str.ofString "met") = some (.ref ml) := (e6 _ (by decide +kernel) (by decide +kernel) (by decide +kernel) (by decide +kernel) (by decide +kernel)).trans (hm)
  have m2 : M1 (Str.ofString "pages") = some (.ref pl) := (e6 _ (by decide +kernel) (by decide +kernel) (by decide +kernel) (by decide +kernel) (by decide +kernel)).trans (hm2)
  have m4 : M1 (Str.ofString "sendings") = some (.int (snd : Int) t2) := (e6 _ (by decide +kernel) (by decide +kernel) (by decide +kernel) (by decide +kernel) (by decide +kernel)).trans (hm4)
  refine cutE (show lawDef.body.drop 14 = (lawDef.body.drop 14).take 1 ++ lawDef.body.drop 15 from rfl) ?_
  refine seg5 (rest := lawDef.body.drop 15) w mean mg mb h₀ L fa cd M1 _ Q Ea Eb rl ml zl k mk snd (rf snd (mxN (eN runs) (zN runs)) + 1) us mus runs (metF runs (snd + 1)) bh tp tb tt oZ oR oH oN cZ ((pl, listOf (Ws.map fun W => Value.ref W.x).toArray pk) :: Tr) hB hK hT hch F1 e1 m1 e4 e5 (sub_news N1 ?_) hZ hNn o hI hIm (by omega) hbh (by rw [htp, top_nat o]) (by omega) ?_ ⟨Nat.ne_of_gt z2, Nat.ne_of_gt z3, Nat.ne_of_gt z4, Nat.ne_of_gt z5, Nat.ne_of_gt z6, Nat.ne_of_gt hmlz⟩ ⟨hOrl _ (by simp), hOml _ (by simp)⟩ ?_
  · walk_at "sub"
  · intro p hp
    simp only [List.forall_mem_cons, List.not_mem_nil, false_implies, implies_true, and_true]
    rcases List.mem_cons.mp hp with rfl | hp
    · exact ⟨Nat.ne_of_lt z1, neN (by dsimp only; omega)⟩
    · exact ⟨Nat.ne_of_lt (hzTr p hp), hO p hp _ (by first | walk_at "subm" | simp)⟩
  intro zk zv oZ2 cZ2 add M2 h2 tk2 F2 f1 hZ2 hD hOa N2
  have q1 : M2 (Str.ofString "moves") = some (.ref zl) := (f1 _ (by decide +kernel)).trans (e1)
  have q2 : M2 (Str.ofString "first") = some (.ref W0.x) := (f1 _ (by decide +kernel)).trans (e2)
  have q3 : M2 (Str.ofString "last") = some (.ref Wn.x) := (f1 _ (by decide +kernel)).trans (e3)
  have q4 : M2 (Str.ofString "behind") = some (.int bh tb) := (f1 _ (by decide +kernel)).trans (e4)
  have q5 : M2 (Str.ofString "met") = some (.ref ml) := (f1 _ (by decide +kernel)).trans (m1)
  have q6 : M2 (Str.ofString "pages") = some (.ref pl) := (f1 _ (by decide +kernel)).trans (m2)
  have q7 : M2 (Str.ofString "sendings") = some (.int (snd : Int) t2) := (f1 _ (by decide +kernel)).trans (m4)
  obtain ⟨T2, hT2⟩ : ∃ T2 : List (Addr × Obj), T2 = (L + 1 + 1 + 1 + 1, oZ2) :: (L + 1 + 1 + 1, oR) :: (L + 1 + 1, oH) :: (L + 1, oN) :: (rl, listOf us.toArray k) :: (ml, listOf mus.toArray mk) :: ((pl, listOf (Ws.map fun W => Value.ref W.x).toArray pk) :: Tr ++ add) := ⟨_, rfl⟩
  have hTrT : ∀ p ∈ Tr, p ∈ T2 := by rw [hT2]; walk_at "sub"
  have hD2 : DatAll T2 zv ((msF runs snd (rf snd (mxN (eN runs) (zN runs)) + 1)).map tripD) := by
    rw [msF_moves]
    exact hD.mono (by rw [hT2]; walk_at "sub")
  have hmsl : (msF runs snd (rf snd (mxN (eN runs) (zN runs)) + 1)).length ≤ 20 := by unfold msF; rw [List.length_map, rangeKs_length]; omega
  have N3 : News h₀ L h2 (W0.objs w.params ++ (Wn.objs w.params ++ (zl, listOf zv.toArray zk) :: T2)) := by
    refine sub_news N2 ?_
    intro p hp
    rw [← hT2]
    rcases List.mem_append.mp hp with hp | hp
    · exact List.mem_cons_of_mem _ (hTrT p (m0 p hp))
    · rcases List.mem_append.mp hp with hp | hp
      · exact List.mem_cons_of_mem _ (hTrT p (mn p hp))
      · exact hp
  refine cutE (show lawDef.body.drop 15 = (lawDef.body.drop 15).take 1 ++ lawDef.body.drop 16 from rfl) ?_
  refine seg6a (rest := lawDef.body.drop 16) w mean mg mb h₀ L fa cd M2 _ Q Ea Eb zl zk zv _ W0 Wn _ _ T2 hB hK hT hch F2 q2 q3 q1 N3 hD2 hmsl o0 on b0 bn l0 ln ?_ ?_
  · rw [p0.b, p0.nt, pn.b, pn.nt, range_ne o]; exact eq6a o snd
  intro h3 tk3 F3 N3
  refine cutE (show lawDef.body.drop 16 = (lawDef.body.drop 16).take 1 ++ lawDef.body.drop 17 from rfl) ?_
  refine seg6b (rest := lawDef.body.drop 17) w mean mg mb h₀ L fa cd M2 _ Q Ea Eb zl zk zv _ W0 Wn _ _ T2 hB hK hT hch F3 q2 q3 q1 N3 hD2 hmsl o0 on b0 bn l0 ln ?_ ?_
  · rw [p0.b, p0.nt, pn.b, pn.nt, range_ne o]; exact eq6b o snd
  intro h4 tk4 F4 N4
  refine cutE (show lawDef.body.drop 17 = (lawDef.body.drop 17).take 1 ++ lawDef.body.drop 18 from rfl) ?_
  refine seg6c (rest := lawDef.body.drop 18) w mean mg mb h₀ L fa cd M2 _ Q Ea Eb zl zk zv _ W0 Wn _ _ T2 hB hK hT hch F4 q2 q3 q1 N4 hD2 hmsl o0 on b0 bn l0 ln ?_ ?_
  · rw [p0.b, p0.nt, pn.b, pn.nt, range_ne' o]; exact eq6c o snd
  intro h5 tk5 F5 N5
  refine cutE (show lawDef.body.drop 18 = (lawDef.body.drop 18).take 1 ++ lawDef.body.drop 19 from rfl) ?_
  refine seg7 (rest := lawDef.body.drop 19) w mean mg mb h₀ L fa cd M2 _ Q Ea Eb rl k us runs bh tb oN W0 Wn _ _ T2 hB hK hT hch F5 q2 q3 q4 (sub_news N5 ?_) hNn o hI o0 on b0 bn l0 ln ?_ (equal_fact o p0 pn (by omega)) (less_back o p0 pn (by omega)) ?_
  · rw [hT2]
    walk_at "sub"
  · rw [hbh]; exact less_fact o p0 pn (by omega)
  intro h6 tk6 F6 N6
  have N7 : News h₀ L h6 ((ml, listOf mus.toArray mk) :: (W0.objs w.params ++ (Wn.objs w.params ++ T2))) := by
    refine sub_news N6 ?_
    rw [hT2]
    walk_at "sub"
  refine cutE (show lawDef.body.drop 19 = (lawDef.body.drop 19).take 2 ++ lawDef.body.drop 21 from rfl) ?_
  refine seg8 (rest := lawDef.body.drop 21) w mean mg mb h₀ L fa cd M2 _ Q Ea Eb ml mk mus (metF runs (snd + 1)) _ hB hK hT hch F6 q5 N7 hIm (by omega) mb1 ?_
  intro tpr M3 h7 tk7 F7 g1 g2 N8
  refine cutE (show lawDef.body.drop 21 = (lawDef.body.drop 21).take 3 ++ lawDef.body.drop 24 from rfl) ?_
  refine seg9 (rest := lawDef.body.drop 24) w mean mg mb h₀ L fa cd M3 _ Q Ea Eb bh (prodL (metF runs (snd + 1))) tb tpr W0 Wn (cntF (endN runs 0)) (cntF (endN runs snd)) T2 hB hK hT hch F7 ((g2 _ (by decide +kernel) (by decide +kernel)).trans (q2)) ((g2 _ (by decide +kernel) (by decide +kernel)).trans (q3)) ((g2 _ (by decide +kernel) (by decide +kernel)).trans (q4)) g1 (sub_news N8 (fun p hp => List.mem_cons_of_mem _ hp)) o0 on ?_ ?_ ?_
  · rw [p0.b, p0.nt, pn.b, pn.nt, hbh]; exact exp_ok o hs3
  · rw [p0.b, p0.nt, pn.b, pn.nt, hbh]; exact legendre_fact o hs3
  intro M4 h8 tk8 F8 g3 N9
  have r7 : M4 (Str.ofString "sendings") = some (.int (snd : Int) t2) := (g3 _ (by decide +kernel) (by decide +kernel) (by decide +kernel)).trans ((g2 _ (by decide +kernel) (by decide +kernel)).trans (q7))
  have r6 : M4 (Str.ofString "pages") = some (.ref pl) := (g3 _ (by decide +kernel) (by decide +kernel) (by decide +kernel)).trans ((g2 _ (by decide +kernel) (by decide +kernel)).trans (q6))
  refine cutE (show lawDef.body.drop 24 = (lawDef.body.drop 24).take 3 ++ lawDef.body.drop 27 from rfl) ?_
  refine seg10a (rest := lawDef.body.drop 27) w mean mg mb h₀ L fa cd M4 _ Q Ea Eb rl k snd us runs t2 oZ2 oR oH oN cZ2 ((pl, listOf (Ws.map fun W => Value.ref W.x).toArray pk) :: Tr) hB hK hT hch F8 r7 (sub_news N9 ?_) hZ2 hNn o hI hs3 ?_ (hOrl _ (by simp)) ?_
  · rw [hT2]
    walk_at "sub"
  · intro p hp
    simp only [List.forall_mem_cons, List.not_mem_nil, false_implies, implies_true, and_true]
    rcases List.mem_cons.mp hp with rfl | hp
    · exact neN (by dsimp only; omega)
    · exact hO p hp _ (by first | walk_at "subm" | simp)
  intro due td tz oZ3 M5 h9 tk9 hdue F9 g4 g5 hZ3 N10
  refine seg10b w mean mg mb h₀ L fa cd M5 _ Q Ea Eb pl pk (snd + 1) runs ((snd : Int) + 1) due tz td oZ3 Ws Tr hB hK hT hch F9 g4 ((g5 _ (by decide +kernel)).trans (r6)) (sub_news N10 ?_) hZ3 (by omega) (by omega) hWl (by omega) ?_ ?_ ?_
  · walk_at "sub"
  · intro j W hj
    obtain ⟨pj, mj⟩ := hWs j W hj
    have hjl := (List.getElem?_eq_some_iff.mp hj).1
    exact ⟨⟨pj, (pageWs o (by omega) pj).1⟩, mj⟩
  · rw [hdue]; exact hermite_fact o hs3
  intro M6 nw h10 tk10 F10 N11 hsub
  refine cps ?_
  intro C9 hC9
  obtain ⟨v1, v2, v3, v4, -, v6⟩ := hTab
  refine hC9 ?_
  clear hC9 C9
  exact hc M6 nw h10 tk10 F10 N11 ⟨_, hsub _ (v6 (172, tabObj (tabOf v1 v3)) (by first | walk_at "subm" | simp))⟩
end Mine
end
section
open PySem PySem.W PyProof.Rows
namespace Mine
theorem fresh_L26 : True := by
  k_with_none
  w_top off
  trivial
theorem mod_range (a : Int) (b : Int) (hb : 0 < b) : 0 ≤ a.fmod b ∧ a.fmod b < b := by
  rw [Int.fmod_eq_emod_of_nonneg _ (by omega)]
  exact ⟨Int.emod_nonneg _ (by omega), Int.emod_lt_of_pos _ hb⟩
theorem runsF_ok (hs : List Int) (h4 : hs.length = 4) : RunsOk (runsF hs) := by
  refine ⟨by simp [runsF], ?_, ?_⟩
  · unfold runsF
    rw [List.length_append, List.length_map]
    have h1 := List.length_filter_le (fun a : Int => a.fmod 6 != 5) (List.take 3 hs)
    have h2 := List.length_take_le 3 hs
    simp only [List.length_singleton]
    omega
  · intro r hr
    unfold runsF at hr
    rcases List.mem_append.mp hr with hr | hr
    · obtain ⟨a, ha, rfl⟩ := List.mem_map.mp hr
      obtain ⟨-, h5⟩ := List.mem_filter.mp ha
      have h5' : a.fmod 6 ≠ 5 := by simpa using h5
      have := mod_range a 6 (by decide)
      omega
    · have e : r = (hs.getD 3 0).fmod 5 := by simpa using hr
      have := mod_range (hs.getD 3 0) 5 (by decide)
      omega
theorem lawAll (w : World) (mean : ExcName → Option Value) (mg mb : Str → Option Value) (h₀ : Heap) (L fa sl : Nat) (cd : Value) (m : Str → Option Value) (s : Shared) (Q : Flow → Shared → Prop) (Ea Eb : Value → Shared → Prop)
    (vs : List Value) (script : List Int) (oZ oR oH oN : Obj) (cZ cR cH cN : Option Value)
    (hB : Below callerA h₀ [] h₀) (hK : (hd.heap_39 w.params).In h₀) (hT : Top topProg LooseL mean mg mb h₀) (hch : CodeHd h₀ 176 172)
    (hF : Fr h₀ L s.heap m) (hm : m (Str.ofString "script") = some (.ref sl))
    (hN : News h₀ L s.heap [(L + 1 + 1 + 1 + 1, oZ), (L + 1 + 1 + 1, oR), (L + 1 + 1, oH), (L + 1, oN), (172, tabObj #[])])
    (hZ : oZ.data = .cell cZ) (hR : oR.data = .cell cR) (hH : oH.data = .cell cH) (hNn : oN.data = .cell cN) (hL : 172 < L)
    (hl : h₀.IsList sl vs.toArray) (hI : IntsAre vs script) (hlen : ¬ (63 : Int) < (script.length : Int)) (hlay : (PyData.list (script.map PyData.int)).layable0 = true)
    (hc : ∀ (M' : Str → Option Value) (nw : List (Addr × Obj)) (h' : Heap) (tk' : Nat), Fr h₀ L h' M' → News h₀ L h' nw → (∃ ps : Array Value, ((172 : Nat), tabObj ps) ∈ nw) → Q (.ret (.bool true)) { s with heap := h', toks := tk' }) :
    wpAny (model Challenge.rw_pe0179_01.row.prog w) (lawA L fa cd) (execs lawDef.body (lawEnv L fa cd)) Q (fun e s1 => lawE w L fa cd Ea Eb e s1) s := by
  refine cutE (show lawDef.body = lawDef.body.take 5 ++ lawDef.body.drop 5 from rfl) ?_
  refine seg1 (rest := lawDef.body.drop 5) w mean mg mb h₀ L fa sl cd m s Q Ea Eb vs script oZ oR oH oN cZ cR cH cN hB hK hT hch (fr1 hF hm) hN hZ hR hH hNn hL hl hI hlen hlay ?_
  intro hs us rl k oN' t1 t2 M1 h1 tk1 h4 hIr hNn' hLr F1 N1
  have o := runsF_ok hs h4
  obtain ⟨d1, d2⟩ := mod_range (hs.sum.fdiv 5) 3 (by decide)
  obtain ⟨snd, hsnd⟩ : ∃ n : Nat, (hs.sum.fdiv 5).fmod 3 + 1 = (n : Int) := ⟨((hs.sum.fdiv 5).fmod 3 + 1).toNat, by omega⟩
  rw [hsnd] at F1
  refine cutE (show lawDef.body.drop 5 = (lawDef.body.drop 5).take 3 ++ lawDef.body.drop 8 from rfl) ?_
  refine seg2 (rest := lawDef.body.drop 8) w mean mg mb h₀ L fa rl k cd M1 _ Q Ea Eb us (runsF hs) hs.sum (snd : Int) t1 t2 oZ oR oH oN' cZ cR cH hB hK hT hch F1 N1 hZ hR hH hNn' hL hLr hIr o.len o.bd ?_
  intro pl ml t3 t4 M2 h2 tk2 F2 N2 hrp hpm
  refine cutE (show lawDef.body.drop 8 = (lawDef.body.drop 8).take 1 ++ lawDef.body.drop 9 from rfl) ?_
  refine seg3 (rest := lawDef.body.drop 9) w mean mg mb h₀ L fa rl k pl ml cd _ _ Q Ea Eb us (runsF hs) snd t3 t4 oZ oR oH oN' cZ cR cH hB hK hT hch F2 rfl rfl rfl rfl N2 hZ hR hH hNn' hL hLr hrp hpm hIr o (by omega) ?_
  intro M3 nx h3 tk3 F3 N3 hJ
  refine lawTail w mean mg mb h₀ L fa rl k pl cd M3 _ Q Ea Eb us (runsF hs) snd t3 oZ oN' cZ nx hB hK hT hch F3 N3 hJ hZ hNn' hL hLr hrp hIr o (by omega) ?_
  intro M' nw h' tk' F N hg
  exact hc M' nw h' tk' F N hg
end Mine
end
open PySem PySem.W PyProof.Rows
theorem Mine.fresh_end : True := by
  k_with_none
  w_top off
  trivial
set_option maxRecDepth 100000 in
set_option maxHeartbeats 8000000 in
theorem PySem.Challenge.cw_pe0179_01_holds : PySem.Challenge.rw_pe0179_01.Holds := by
  refine Mine.hd ?_
  k_with_none
  k_go0
  all_goals (try k_fold)
  rename Below _ _ _ _ => zB
  rename Frag.In _ _ => zK
  rename Top topProg _ _ _ _ _ => zT
  rename CodeHd _ _ _ => zH
  rename Fr _ _ _ _ => zF
  rename News _ _ _ _ => zN
  rename IntsAre _ _ => zI
  rename (172 : Nat) < _ => zL
  rename PyData.layable0 (PyData.list _) = true => zlay
  rename ¬ _ < _ => zlen
  refine Mine.lawAll _ _ _ _ _ _ _ _ _ _ _ _ _ _ _ _ _ _ _ _ _ _ _ _ zB zK zT zH zF rfl zN (by assumption) (by assumption) (by assumption) (by assumption) zL (by assumption) zI zlen zlay ?zc
  case zc =>
    intro M' nw h' tk' F N hg
    obtain ⟨ps, hps⟩ := hg
    refine ⟨?_, GrownAt.of N hps, trivial⟩
    kc_close
