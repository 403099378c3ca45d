import PyProof.Rows.All
import Wide.All
import OpenK.AllK
import Wide.FinOn
import PySem.Challenge.RW_mj0073_01
set_option Elab.async false
set_option linter.all false
set_option rowWalk.seconds 0
namespace Mine

section
open PySem PySem.W PyProof.Rows
set_option Elab.async false
set_option maxRecDepth 100000
set_option maxHeartbeats 8000000
open_top hd for PySem.Challenge.rw_mj0073_01

/-- a proposition in a wrap, so that no line of the walk takes it for a fact -/
structure Wrap (T : Prop) : Prop where
  get : T
end

section
open PySem PySem.W PyProof.Rows
set_option Elab.async false
set_option maxRecDepth 100000
/-- a contract of one def of the text: called with `vs` under any frame with the ledger `news`, it ends and hands back a value and new objects of which `Post` holds -/
def Con (w : World) (mean : ExcName → Option Value) (mg mb : Str → Option Value) (f : Addr) (d u : Nat) (vs : List Value) (news : List (Addr × Obj)) (Post : Value → List (Addr × Obj) → Prop) : Prop :=
  ∀ (dp un : Nat) (gd : Option (List Code)) (cn : Str) (cs : Scope) (a : Addr) (ccd : Value) (cl : List (Str × Addr)) (outer : List Env) (A₀ : Around) (base h₀ : Heap) (L : Addr) (m : Str → Option Value) (s : Shared) (Q E : Value → Shared → Prop),
    Below A₀ base outer h₀ → Fr h₀ L s.heap m → (hd.heap_39 w.params).In h₀ → News h₀ L s.heap news → Top hd.view_39 (looseW hd.view_39 []) mean mg mb h₀ → cs.kind = .function →
    dp + d < recursionLimit → un + u < cLine →
    (∀ v tl h' tk', Post v tl → Fr h₀ L h' m → News h₀ L h' (tl ++ news) → (∀ p ∈ tl, ∀ q ∈ news, q.1 ≠ p.1) → Q v { s with heap := h', toks := tk' }) →
    wpAny (model PySem.Challenge.rw_mj0073_01.row.prog w) (ktrTop dp un gd cn cs L a ccd cl outer) (call (.ref f) vs) Q E s

/-- the same where nothing new is kept -/
def Con0 (w : World) (mean : ExcName → Option Value) (mg mb : Str → Option Value) (f : Addr) (d u : Nat) (vs : List Value) (news : List (Addr × Obj)) (R : Tok → Value) : Prop :=
  ∀ (dp un : Nat) (gd : Option (List Code)) (cn : Str) (cs : Scope) (a : Addr) (ccd : Value) (cl : List (Str × Addr)) (outer : List Env) (A₀ : Around) (base h₀ : Heap) (L : Addr) (m : Str → Option Value) (s : Shared) (Q E : Value → Shared → Prop),
    Below A₀ base outer h₀ → Fr h₀ L s.heap m → (hd.heap_39 w.params).In h₀ → News h₀ L s.heap news → Top hd.view_39 (looseW hd.view_39 []) mean mg mb h₀ → cs.kind = .function →
    dp + d < recursionLimit → un + u < cLine →
    (∀ t h' tk', Fr h₀ L h' m → News h₀ L h' news → Q (R t) { s with heap := h', toks := tk' }) →
    wpAny (model PySem.Challenge.rw_mj0073_01.row.prog w) (ktrTop dp un gd cn cs L a ccd cl outer) (call (.ref f) vs) Q E s

theorem Con0.use {w : World} {mean : ExcName → Option Value} {mg mb : Str → Option Value} {f : Addr} {d u : Nat} {vs : List Value} {news : List (Addr × Obj)} {R : Tok → Value}
    {dp un : Nat} {gd : Option (List Code)} {cn : Str} {cs : Scope} {a : Addr} {ccd : Value} {cl : List (Str × Addr)} {outer : List Env} {A₀ : Around} {base h₀ : Heap} {L : Addr} {m : Str → Option Value} {s : Shared} {Q E : Value → Shared → Prop}
    (C : Con0 w mean mg mb f d u vs news R) (B : Below A₀ base outer h₀) (F : Fr h₀ L s.heap m) (X : (hd.heap_39 w.params).In h₀) (N : News h₀ L s.heap news) (T : Top hd.view_39 (looseW hd.view_39 []) mean mg mb h₀) (hk : cs.kind = .function)
    (hd : dp + d < recursionLimit) (hu : un + u < cLine)
    (ret : ∀ t h' tk', Fr h₀ L h' m → News h₀ L h' news → Q (R t) { s with heap := h', toks := tk' }) :
    wpAny (model PySem.Challenge.rw_mj0073_01.row.prog w) (ktrTop dp un gd cn cs L a ccd cl outer) (call (.ref f) vs) Q E s :=
  C _ _ _ _ _ _ _ _ _ _ _ _ _ _ _ _ _ B F X N T hk hd hu ret
theorem Con.use {w : World} {mean : ExcName → Option Value} {mg mb : Str → Option Value} {f : Addr} {d u : Nat} {vs : List Value} {news : List (Addr × Obj)} {Post : Value → List (Addr × Obj) → Prop}
    {dp un : Nat} {gd : Option (List Code)} {cn : Str} {cs : Scope} {a : Addr} {ccd : Value} {cl : List (Str × Addr)} {outer : List Env} {A₀ : Around} {base h₀ : Heap} {L : Addr} {m : Str → Option Value} {s : Shared} {Q E : Value → Shared → Prop}
    (C : Con w mean mg mb f d u vs news Post) (B : Below A₀ base outer h₀) (F : Fr h₀ L s.heap m) (X : (hd.heap_39 w.params).In h₀) (N : News h₀ L s.heap news) (T : Top hd.view_39 (looseW hd.view_39 []) mean mg mb h₀) (hk : cs.kind = .function)
    (hd : dp + d < recursionLimit) (hu : un + u < cLine)
    (ret : ∀ v tl h' tk', Post v tl → Fr h₀ L h' m → News h₀ L h' (tl ++ news) → (∀ p ∈ tl, ∀ q ∈ news, q.1 ≠ p.1) → Q v { s with heap := h', toks := tk' }) :
    wpAny (model PySem.Challenge.rw_mj0073_01.row.prog w) (ktrTop dp un gd cn cs L a ccd cl outer) (call (.ref f) vs) Q E s :=
  C _ _ _ _ _ _ _ _ _ _ _ _ _ _ _ _ _ B F X N T hk hd hu ret
end

open PySem PySem.W PyProof.Rows
local macro_rules | `(tactic| walk_at $s:str) => `(tactic| k_extra $s)
local macro_rules | `(tactic| cell_ask $C) => `(tactic| (k_here; k_dflt (refine' Con.use $C ?k1 ?k2 ?k3 ?k4 ?k5 ?kK ?kd ?ku ?kR; (case k1 => k_asm); (case k2 => k_asm); (case k3 => k_asm); (case k4 => k_asm); (case k5 => k_asm); (case kK => first | exact rfl | assumption); (case kd => ktr_room); (case ku => ktr_units); intro v9 tl9 h9 tk9 P9 F9 N9 S9; obtain ⟨D9, u1, u2, u3, e1, e2⟩ := P9; subst e1; subst e2; rw [List.cons_append, List.nil_append] at N9; (try dsimp only at N9 S9 ⊢); (try k_fold))))
local macro_rules | `(tactic| walk_at "mine enterC") => `(tactic| k_dflt (refine' code_defC ?k1 ?k2 ?k3 ?k4 ?k5 ?kA ?kF ?kK ?k6 ?k7 ?k8 ?k9 ?kB ?kD ?_ ?c2 ?c3 ?c4; (case kA => exact rfl); (case kF => exact rfl); (case kK => first | exact rfl | assumption); (case k1 => k_asm); (case k2 => k_asm); (case k3 => k_asm); (case k4 => k_asm); (case k5 => k_asm); (case k6 => k_is); (case k7 => k_is); (case k8 => ktr_room); (case k9 => exact BindsTo.of_eq rfl); (case kB => exact rfl); (case kD => decide +kernel); (case c2 => exact rfl); (case c3 => exact rfl); (case c4 => exact rfl); k_whole; intro g' L' h' tk' cells' FG' F' N' Y' B' X' T' l1; (try k_lt l1); k_cells Y'; (try simp only [List.cons_append, List.nil_append] at N'); (try dsimp only); (try k_lift B'); (try k_fold)))
local macro_rules | `(tactic| cell_ask $C) => `(tactic| (k_here; k_dflt (refine' Con0.use $C ?k1 ?k2 ?k3 ?k4 ?k5 ?kK ?kd ?ku ?kR; (case k1 => k_asm); (case k2 => k_asm); (case k3 => k_asm); (case k4 => k_asm); (case k5 => k_asm); (case kK => first | exact rfl | assumption); (case kd => ktr_room); (case ku => ktr_units); intro t9 h9 tk9 F9 N9; (try dsimp only); (try k_fold))))

section
open PySem PySem.W PyProof.Rows
set_option Elab.async false
set_option maxRecDepth 100000
set_option maxHeartbeats 8000000
set_option pp.deepTerms false
theorem offC1 : True := by
  w_top off
  k_with_none
  exact trivial
theorem ctoi {w mean mg mb news} (c : Nat) (t : Tok) : Con0 w mean mg mb 35 1 8 [.str ⟨#[c]⟩ t] news (fun t => .int c t) := by
  unfold Con0
  k_fill
  intro dp un gd cn cs a ccd cl outer A₀ base h₀ L m s Q E B F X N T hk hd hu hret
  refine wpAny_call ?_
  k_dflt cell_enter
  k_steps
  exact hret _ _ _ (by assumption) (by assumption)
theorem said1 : True := by
  k_with "call ref" => (cell_ask (ctoi _ _))
  exact trivial
theorem isdigit {w mean mg mb news} (c : Nat) (t : Tok) : Con0 w mean mg mb 49 2 16 [.str ⟨#[c]⟩ t] news (fun _ => .bool (decide (48 ≤ c ∧ c ≤ 57))) := by
  unfold Con0
  k_fill
  intro dp un gd cn cs a ccd cl outer A₀ base h₀ L m s Q E B F X N T hk hd hu hret
  refine wpAny_call ?_
  k_dflt cell_enter
  k_steps
  all_goals exact cb_retB hret (decide_eq_decide.mpr (by omega)) (by assumption) (by assumption)
theorem islower {w mean mg mb news} (c : Nat) (t : Tok) : Con0 w mean mg mb 56 2 16 [.str ⟨#[c]⟩ t] news (fun _ => .bool (decide (97 ≤ c ∧ c ≤ 122))) := by
  unfold Con0
  k_fill
  intro dp un gd cn cs a ccd cl outer A₀ base h₀ L m s Q E B F X N T hk hd hu hret
  refine wpAny_call ?_
  k_dflt cell_enter
  k_steps
  all_goals exact cb_retB hret (decide_eq_decide.mpr (by omega)) (by assumption) (by assumption)
theorem isupper {w mean mg mb news} (c : Nat) (t : Tok) : Con0 w mean mg mb 63 2 16 [.str ⟨#[c]⟩ t] news (fun _ => .bool (decide (65 ≤ c ∧ c ≤ 90))) := by
  unfold Con0
  k_fill
  intro dp un gd cn cs a ccd cl outer A₀ base h₀ L m s Q E B F X N T hk hd hu hret
  refine wpAny_call ?_
  k_dflt cell_enter
  k_steps
  all_goals exact cb_retB hret (decide_eq_decide.mpr (by omega)) (by assumption) (by assumption)
theorem mask31 (c : Nat) : Builtin.bitAnd (c : Int) 31 = ((c % 32 : Nat) : Int) := by
  have h := kbt_mask (c : Int) 5
  rw [show ((2 : Int) ^ 5 - 1) = 31 from rfl, show ((2 : Int) ^ 5) = 32 from rfl] at h
  rw [h]
  omega
theorem ctrl {w mean mg mb news} (c : Nat) (t : Tok) : Con0 w mean mg mb 77 2 16 [.str ⟨#[c]⟩ t] news (fun t => .str ⟨#[c % 32]⟩ t) := by
  unfold Con0
  k_fill
  intro dp un gd cn cs a ccd cl outer A₀ base h₀ L m s Q E B F X N T hk hd hu hret
  refine wpAny_call ?_
  k_dflt cell_enter
  k_steps
  rw [mask31]
  refine chr_of_range (by omega) (by omega) ?_
  k_steps
  exact hret _ _ _ (by assumption) (by assumption)
theorem said2 : True := by
  k_with "call ref" => (first | cell_ask (isdigit _ _) | cell_ask (islower _ _) | cell_ask (isupper _ _))
  exact trivial
theorem isxdigit {w mean mg mb news} (c : Nat) (t : Tok) : Con0 w mean mg mb 70 3 24 [.str ⟨#[c]⟩ t] news (fun _ => .bool (decide ((48 ≤ c ∧ c ≤ 57) ∨ (65 ≤ c ∧ c ≤ 70) ∨ (97 ≤ c ∧ c ≤ 102)))) := by
  unfold Con0
  k_fill
  intro dp un gd cn cs a ccd cl outer A₀ base h₀ L m s Q E B F X N T hk hd hu hret
  refine wpAny_call ?_
  k_dflt cell_enter
  k_steps
  all_goals exact cb_retB hret (decide_eq_decide.mpr (by omega)) (by assumption) (by assumption)
theorem isalpha {w mean mg mb news} (c : Nat) (t : Tok) : Con0 w mean mg mb 42 3 24 [.str ⟨#[c]⟩ t] news (fun _ => .bool (decide ((65 ≤ c ∧ c ≤ 90) ∨ (97 ≤ c ∧ c ≤ 122)))) := by
  unfold Con0
  k_fill
  intro dp un gd cn cs a ccd cl outer A₀ base h₀ L m s Q E B F X N T hk hd hu hret
  refine wpAny_call ?_
  k_dflt cell_enter
  k_steps
  all_goals exact cb_retB hret (decide_eq_decide.mpr (by omega)) (by assumption) (by assumption)
end

section
open PySem PySem.W PyProof.Rows
set_option Elab.async false
set_option maxRecDepth 100000
section
variable {prog : Program} {w : World} {A : Around} {E : Value → Shared → Prop} {s : Shared} {env : Env} {h₀ : Heap} {x : Str} {body : List Stmt} {Q : Flow → Shared → Prop}

/-- what holds between two turns: the ledger and the stored names are told by one state `c`, of which `P` holds -/
def Stt {σ : Type} (Led : σ → List (Addr × Obj)) (ps : σ → List (Str × Value)) (x : Str) (stored : List Str) (m₀ : Str → Option Value) (P : σ → Prop) (m : Str → Option Value) (nx : List (Addr × Obj)) : Prop :=
  ∃ c, nx = Led c ∧ (∀ p ∈ ps c, m p.1 = some p.2) ∧ (∀ z, z ≠ x → (∀ p ∈ ps c, z ≠ p.1) → stored.contains z = false → m z = m₀ z) ∧ P c

theorem walks_invG {I : Addr} {n : Nat} {Pv : Nat → Value → Prop} {St : Nat → Heap → Prop} {m₀ : Str → Option Value} {news : List (Addr × Obj)} (J : Nat → (Str → Option Value) → List (Addr × Obj) → Prop)
    (W : Walks prog w A I [I] [I] n Pv St) (hlive : ∀ i h, St i h → ∃ o, h.get? I = some o) (hI0 : h₀.get? I = none) (hIL : env.locals ≠ I) (hnw : ∀ p ∈ news, p.1 ≠ I)
    (hst : St 0 s.heap) (F : Fr h₀ env.locals s.heap m₀) (N : News h₀ env.locals s.heap news) (hj : J 0 m₀ news)
    (turn : ∀ i v m₁ news₁ h tk own, i < n → Pv i v → OwnOff own (news₁.map (·.1)) → J i m₁ news₁ → Fr h₀ env.locals h (fun y => if y = x then some v else m₁ y) → News h₀ env.locals h (news₁ ++ own) →
      wpAny (model prog w) A (execs body env) (InvPostG h₀ env.locals (J (i + 1)) own { s with heap := h, toks := tk } Q) E { s with heap := h, toks := tk })
    (done : ∀ m₁ news₁ h tk, J n m₁ news₁ → Fr h₀ env.locals h m₁ → News h₀ env.locals h news₁ → Q .next { s with heap := h, toks := tk }) :
    LoopAtV prog w A h₀ env x body Q E (.ref I) s := by
  refine ⟨I, [I], [I], n, Pv, St, m₀, news, J, rfl, W, fun h => hIL (List.mem_singleton.mp h), fun b hb => by rw [List.mem_singleton.mp hb]; exact hI0, fun p hp h => hnw p hp (List.mem_singleton.mp h), hst, F, N, hj, ?_, ?_⟩
  · rintro i v m₁ news₁ s₁ own ⟨hh', tk', rfl⟩ hin hP hJ hoff hown _ hfp hst₁ F₁ N₁
    obtain ⟨oI, hoI⟩ := hlive _ _ hst₁
    have hIown : (I, oI) ∈ own := hfp _ (List.mem_singleton.mpr rfl) hI0 _ hoI
    have hsep : OwnOff own (news₁.map (·.1)) := by
      intro p hp b hb e
      obtain ⟨q, hq, rfl⟩ := List.mem_map.mp hb
      exact hoff q hq (by rw [← e]; exact hown p hp)
    have N₂ : News h₀ env.locals hh' (news₁ ++ own) := fun p hp => N₁ p ((List.mem_append.mp hp).elim (fun h => List.mem_append.mpr (.inr h)) fun h => List.mem_append.mpr (.inl h))
    refine wpAny_mono (turn i v m₁ news₁ hh' tk' own hin hP hsep hJ F₁ N₂) (fun f s₂ p => ?_) fun _ _ e => e
    have fin : InvEndG h₀ env.locals (J (i + 1)) own { s with heap := hh', toks := tk' } s₂ → LoopStepU h₀ env.locals [I] own (J (i + 1)) { s with heap := hh', toks := tk' } .next s₂ := by
      rintro ⟨h', tk, m', news', nx, e, F', N', hn, ho, ha, hm⟩
      refine ⟨rfl, h', tk, m', nx, e, F', fun p hp => N' p ((List.mem_append.mp hp).elim (ho p) (hn p)), fun p hp hq => ?_, hm⟩
      exact ha _ hIown p.1 (List.mem_map.mpr ⟨p, hp, rfl⟩) (List.mem_singleton.mp hq).symm
    cases f with
    | ret v => exact .ret p
    | brk => exact .brk p
    | next => exact .next (fin p)
    | cont => exact .cont (fin p)
  · rintro h' tk m' news' F' N' _ hJ
    exact done m' news' h' tk hJ F' N'

/-- a loop over the signs of a text -/
theorem loop_str {σ : Type} {xt : Str} {tx : Tok} {m₀ : Str → Option Value} {news : List (Addr × Obj)} (Led : σ → List (Addr × Obj)) (ps : σ → List (Str × Value)) (stored : List Str) (P : Nat → σ → Prop) (c₀ : σ)
    (hh : A.handled = none) (F : Fr h₀ env.locals s.heap m₀) (N : News h₀ env.locals s.heap news) (hl : Led c₀ = news) (hk : ∀ p ∈ ps c₀, m₀ p.1 = some p.2) (hp : P 0 c₀)
    (turn : ∀ (c : σ) i (n : Nat) t (u : Str → Option Value) h tk own, xt.cps[i]? = some n → OwnOff own ((Led c).map (·.1)) → P i c →
      Fr h₀ env.locals h (fun y => if y = x then some (.str ⟨#[n]⟩ t) else kstB (fun z => if stored.contains z then u z else m₀ z) (ps c) y) → News h₀ env.locals h (Led c ++ own) →
      wpAny (model prog w) A (execs body env) (InvPostG h₀ env.locals (Stt Led ps x stored m₀ (P (i + 1))) own { s with heap := h, toks := tk } Q) E { s with heap := h, toks := tk })
    (done : ∀ (c : σ) (u : Str → Option Value) h tk, P xt.cps.size c → Fr h₀ env.locals h (fun y => if y = x then u y else kstB (fun z => if stored.contains z then u z else m₀ z) (ps c) y) → News h₀ env.locals h (Led c) → Q .next { s with heap := h, toks := tk }) :
    wpAny (model prog w) A (pyIter (.str xt tx)) (fun it s₂ => LoopAtV prog w A h₀ env x body Q E it s₂) E s := by
  subst hl
  have go : ∀ o (St : Nat → Heap → Prop), Walks prog w A s.heap.objs.size [s.heap.objs.size] [s.heap.objs.size] xt.cps.size (SignAt xt) St → (∀ i h, St i h → ∃ o, h.get? s.heap.objs.size = some o) → St 0 (s.heap.push o) →
      LoopAtV prog w A h₀ env x body Q E (.ref s.heap.objs.size) { s with heap := s.heap.push o } := by
    intro o St W hlive hst
    refine walks_invG (s := { s with heap := s.heap.push o }) (fun i m nx => Stt Led ps x stored m₀ (P i) m nx) W hlive (next_is_new F) ?_ ?_ hst (F.push _) (fun p hp => ⟨Heap.get?_push_of_some _ (N p hp).1, (N p hp).2⟩) ⟨c₀, rfl, hk, fun _ _ _ _ => rfl, hp⟩ ?_ ?_
    · exact fun e => absurd F.ns.lt (e ▸ Nat.lt_irrefl _)
    · exact fun p hp e => absurd (Heap.lt_size (N p hp).1) (e ▸ Nat.lt_irrefl _)
    · rintro i v m₁ nx h tk own hi ⟨n, t, hn, rfl⟩ hoff ⟨c, rfl, h1, h2, hp'⟩ F₁ N₁
      exact turn c i n t m₁ h tk own hn hoff hp' (kst_fr h1 h2 F₁) N₁
    · rintro m₁ nx h tk ⟨c, rfl, h1, h2, hp'⟩ F₁ N₁
      exact done c m₁ h tk hp' (kst_frOut h1 h2 F₁) N₁
  cases ha : xt.cps.all (· < 128)
  · exact wpAny_pyIter_wide ha (go _ _ (Walks.strWide hh _ xt tx) (fun i h st => let ⟨o, ho, _⟩ := st; ⟨o, ho⟩) ⟨_, Heap.get?_push_size _ rfl, rfl, rfl⟩)
  · exact wpAny_pyIter_ascii ha (go _ _ (Walks.strAscii hh _ xt tx) (fun i h st => let ⟨o, ho, _⟩ := st; ⟨o, ho⟩) ⟨_, Heap.get?_push_size _ rfl, rfl, rfl⟩)

/-- a loop over a range by ones -/
theorem loop_range {σ : Type} {r : Addr} {a₀ b₀ : Int} {t₀ u₀ v₀ : Tok} {n : Nat} {m₀ : Str → Option Value} {news : List (Addr × Obj)} (Led : σ → List (Addr × Obj)) (ps : σ → List (Str × Value)) (stored : List Str) (P : Nat → σ → Prop) (c₀ : σ)
    (hh : A.handled = none) (hr : IsRange s.heap r a₀ b₀ 1 t₀ u₀ v₀) (hsmall : Builtin.Range.small a₀ b₀ 1 = true) (hn : Builtin.Range.rangeSize a₀ b₀ 1 = (n : Int))
    (F : Fr h₀ env.locals s.heap m₀) (N : News h₀ env.locals s.heap news) (hl : Led c₀ = news) (hk : ∀ p ∈ ps c₀, m₀ p.1 = some p.2) (hp : P 0 c₀)
    (turn : ∀ (c : σ) (i : Nat) t (u : Str → Option Value) h tk own, i < n → OwnOff own ((Led c).map (·.1)) → P i c →
      Fr h₀ env.locals h (fun y => if y = x then some (.int (a₀ + i) t) else kstB (fun z => if stored.contains z then u z else m₀ z) (ps c) y) → News h₀ env.locals h (Led c ++ own) →
      wpAny (model prog w) A (execs body env) (InvPostG h₀ env.locals (Stt Led ps x stored m₀ (P (i + 1))) own { s with heap := h, toks := tk } Q) E { s with heap := h, toks := tk })
    (done : ∀ (c : σ) (u : Str → Option Value) h tk, P n c → Fr h₀ env.locals h (fun y => if y = x then u y else kstB (fun z => if stored.contains z then u z else m₀ z) (ps c) y) → News h₀ env.locals h (Led c) → Q .next { s with heap := h, toks := tk }) :
    wpAny (model prog w) A (pyIter (.ref r)) (fun it s₂ => LoopAtV prog w A h₀ env x body Q E it s₂) E s := by
  subst hl
  refine wpAny_pyIter_range hr hsmall ?_
  refine walks_invG (s := { s with heap := s.heap.push _ }) (fun i m nx => Stt Led ps x stored m₀ (P i) m nx) (Walks.range hh _ a₀ 1 n) (fun i h st => ⟨_, st⟩) (next_is_new F) ?_ ?_ (by show IsRangeIter _ _ _ _ _; rw [hn]; simpa using Heap.get?_push_size _ rfl) (F.push _) (fun p hp => ⟨Heap.get?_push_of_some _ (N p hp).1, (N p hp).2⟩) ⟨c₀, rfl, hk, fun _ _ _ _ => rfl, hp⟩ ?_ ?_
  · exact fun e => absurd F.ns.lt (e ▸ Nat.lt_irrefl _)
  · exact fun p hp e => absurd (Heap.lt_size (N p hp).1) (e ▸ Nat.lt_irrefl _)
  · rintro i v m₁ nx h tk own hi ⟨t, rfl⟩ hoff ⟨c, rfl, h1, h2, hp'⟩ F₁ N₁
    rw [Int.mul_one] at F₁
    exact turn c i t m₁ h tk own hi hoff hp' (kst_fr h1 h2 F₁) N₁
  · rintro m₁ nx h tk ⟨c, rfl, h1, h2, hp'⟩ F₁ N₁
    exact done c m₁ h tk hp' (kst_frOut h1 h2 F₁) N₁

/-- a loop over a list of the ledger's that the loop does not change -/
theorem loop_list {σ : Type} {l : Addr} {vs : List Value} {nn : Nat} {m₀ : Str → Option Value} {news : List (Addr × Obj)} (Led : σ → List (Addr × Obj)) (ps : σ → List (Str × Value)) (stored : List Str) (P : Nat → σ → Prop) (c₀ : σ)
    (hh : A.handled = none) (F : Fr h₀ env.locals s.heap m₀) (N : News h₀ env.locals s.heap news) (hl : Led c₀ = news) (hm : ∀ c, (l, listOf vs.toArray nn) ∈ Led c) (hk : ∀ p ∈ ps c₀, m₀ p.1 = some p.2) (hp : P 0 c₀)
    (turn : ∀ (c : σ) (i : Nat) v (u : Str → Option Value) h tk own, vs[i]? = some v → OwnOff own ((Led c).map (·.1)) → P i c →
      Fr h₀ env.locals h (fun y => if y = x then some v else kstB (fun z => if stored.contains z then u z else m₀ z) (ps c) y) → News h₀ env.locals h (Led c ++ own) →
      wpAny (model prog w) A (execs body env) (InvPostG h₀ env.locals (Stt Led ps x stored m₀ (P (i + 1))) own { s with heap := h, toks := tk } Q) E { s with heap := h, toks := tk })
    (done : ∀ (c : σ) (u : Str → Option Value) h tk, P vs.length c → Fr h₀ env.locals h (fun y => if y = x then u y else kstB (fun z => if stored.contains z then u z else m₀ z) (ps c) y) → News h₀ env.locals h (Led c) → Q .next { s with heap := h, toks := tk }) :
    wpAny (model prog w) A (pyIter (.ref l)) (fun it s₂ => LoopAtV prog w A h₀ env x body Q E it s₂) E s := by
  subst hl
  refine kdl_iter (fun i m nx => Stt Led ps x stored m₀ (P i) m nx) hh (hm c₀) F N ⟨c₀, rfl, hk, fun _ _ _ _ => rfl, hp⟩ ?_ ?_
  · rintro i v m₁ nx h tk own hv hoff _ ⟨c, rfl, h1, h2, hp'⟩ F₁ N₁
    refine wpAny_mono (turn c i v m₁ h tk own hv hoff hp' (kst_fr h1 h2 F₁) N₁) (fun f s₂ p => ?_) fun _ _ e => e
    have up : InvEndG h₀ env.locals (Stt Led ps x stored m₀ (P (i + 1))) own { s with heap := h, toks := tk } s₂ → InvEndG h₀ env.locals (fun m' nx => (l, listOf vs.toArray nn) ∈ nx ∧ Stt Led ps x stored m₀ (P (i + 1)) m' nx) own { s with heap := h, toks := tk } s₂ := by
      rintro ⟨h', tk, m', news', nx, e, F', N', hn, ho, ha, c', rfl, q⟩
      exact ⟨h', tk, m', news', _, e, F', N', hn, ho, ha, hm c', c', rfl, q⟩
    cases f with
    | ret v => exact p
    | brk => exact p
    | next => exact up p
    | cont => exact up p
  · rintro m₁ nx h tk ⟨c, rfl, h1, h2, hp'⟩ F₁ N₁
    exact done c m₁ h tk hp' (kst_frOut h1 h2 F₁) N₁

theorem for_inv {L : Addr} {m : Str → Option Value} {px pos : Pos} {iter : PySem.Expr} (_F : Fr h₀ L s.heap m) (hx : env.kindOf x = some .local)
    (hp : (env.scope.kind == .class || (env.scope.kind == .module && env.locals != env.globals)) = false)
    (h : wpAny (model prog w) A (eval iter env) (fun xv s₁ => wpAny (model prog w) A (pyIter xv) (fun it s₂ => LoopAtV prog w A h₀ env x body Q E it s₂) E s₁) E s)
    (hs : ∀ x, foldedSetIterable iter env x = pure x := by intro _; rfl)
    (hE : PassesOwn (model prog w) A env E := by passes_own) :
    wpAny (model prog w) A (exec (.For (.Name x px) iter body [] pos) env) Q E s := For_invV h₀ hx hp h hs hE

/-- a turn's end -/
theorem turn_end {σ : Type} {Led : σ → List (Addr × Obj)} {ps : σ → List (Str × Value)} {L : Addr} {stored : List Str} {m₀ m' : Str → Option Value} {P : σ → Prop} {own news' : List (Addr × Obj)} {s₁ : Shared} {h' : Heap} {tk : Nat} (c : σ)
    (F : Fr h₀ L h' m') (N : News h₀ L h' news') (hn : ∀ p ∈ Led c, p ∈ news') (ho : ∀ p ∈ own, p ∈ news') (ha : OwnOff own ((Led c).map (·.1)))
    (hk : ∀ p ∈ ps c, m' p.1 = some p.2) (hm : ∀ z, z ≠ x → (∀ p ∈ ps c, z ≠ p.1) → stored.contains z = false → m' z = m₀ z) (hp : P c) :
    InvEndG h₀ L (Stt Led ps x stored m₀ P) own s₁ { s₁ with heap := h', toks := tk } :=
  ⟨h', tk, m', news', _, rfl, F, N, hn, ho, ha, c, rfl, hk, hm, hp⟩
end
end

section
open PySem PySem.W PyProof.Rows
set_option Elab.async false
set_option maxRecDepth 100000
section
variable {prog : Program} {w : World} {A : Around} {E : Value → Shared → Prop} {s : Shared} {Q : Value → Shared → Prop} {t u : Tok}
theorem powN {a : Int} {b i : Nat} (ha : a = (b : Int)) (hb : b < 2 ^ 64) (hi : i ≤ 1000000) (h : Q (.int ((b ^ i : Nat) : Int) s.toks) { s with toks := s.toks + 1 }) :
    wpAny (model prog w) A (binaryOp .Pow (.int a t) (.int (i : Int) u)) Q E s := by
  subst ha
  refine pow_int_small (by lia) (by lia) (by simpa using hb) ?_
  rw [Int.toNat_natCast, show ((b : Int) ^ i) = ((b ^ i : Nat) : Int) from by simp]
  exact h
theorem log2_small {b : Nat} (h : b < 2 ^ 100) : b.log2 < 9000 := by
  by_cases h0 : b = 0
  · subst h0; decide
  · have := (Nat.log2_lt h0).mpr h
    lia
theorem fdivN {a b : Nat} {y : Int} (hy : y = (b : Int)) (h0 : 0 < b) (hb : b < 2 ^ 100) (h : Q (.int ((a / b : Nat) : Int) s.toks) { s with toks := s.toks + 1 }) :
    wpAny (model prog w) A (binaryOp .FloorDiv (.int (a : Int) t) (.int y u)) Q E s := by
  subst hy
  refine floordiv_int (by lia) ?_ (.inl (PyProof.noPylong_of_log2 (by rw [Int.natAbs_natCast]; exact log2_small hb)))
  rw [Int.fdiv_eq_ediv_of_nonneg _ (by lia)]
  exact h
theorem fmodN {a b : Nat} {y : Int} (hy : y = (b : Int)) (h0 : 0 < b) (hb : b < 2 ^ 100) (h : Q (.int ((a % b : Nat) : Int) s.toks) { s with toks := s.toks + 1 }) :
    wpAny (model prog w) A (binaryOp .Mod (.int (a : Int) t) (.int y u)) Q E s := by
  subst hy
  refine mod_int' (by lia) ?_
  rw [Int.fmod_eq_emod_of_nonneg _ (by lia)]
  exact h
theorem addN {a b : Nat} (h : Q (.int ((a + b : Nat) : Int) s.toks) { s with toks := s.toks + 1 }) : wpAny (model prog w) A (binaryOp .Add (.int (a : Int) t) (.int (b : Int) u)) Q E s :=
  add_int (by rw [← Int.natCast_add]; exact h)
end
theorem len_led {prog : Program} {w : World} {A : Around} {E : Value → Shared → Prop} {s : Shared} {Q : Value → Shared → Prop} {h₀ : Heap} {L l : Addr} {vs : List Value} {n : Nat} {news : List (Addr × Obj)} (N : News h₀ L s.heap news) (hm : (l, listOf vs.toArray n) ∈ news) (hl : vs.length ≤ 1000000)
    (h : Q (.int (vs.length : Int) (s.toks + 1)) { s with toks := s.toks + 1 + 1 }) : wpAny (model prog w) A (call (.builtin "len") [.ref l]) Q E s :=
  len_list ⟨_, (N _ hm).1, rfl, n, rfl⟩ (by rw [List.size_toArray]; lia) (by rw [List.size_toArray]; exact h)
theorem small0 {n : Nat} (h : n ≤ 1000) : Builtin.Range.small 0 (n : Int) 1 = true := small_one (by lia) (by lia) (by lia) (by lia)
theorem size0 (n : Nat) : Builtin.Range.rangeSize 0 (n : Int) 1 = (n : Int) := by rw [rangeSize_one]; split <;> lia
end

section
open PySem PySem.W PyProof.Rows
set_option Elab.async false
set_option maxRecDepth 100000
set_option maxHeartbeats 8000000
set_option pp.deepTerms false
theorem offC2 : True := by
  w_top off
  k_with_none
  exact trivial
theorem worth {w mean mg mb news} {l : Addr} {vs : List Value} {nn : Nat} {ns : List Int} (hl : (l, listOf vs.toArray nn) ∈ news) (hi : IntsAre vs ns) :
    Con0 w mean mg mb 98 1 8 [.ref l] news (fun t => .int (ns.foldl (fun a n => 16 * a + n) 0) t) := by
  unfold Con0
  k_fill
  intro dp un gd cn cs a ccd cl outer A₀ base h₀ L m s Q E B F X N T hk hd hu hret
  refine wpAny_call ?_
  k_dflt cell_enter
  k_steps
  rename Fr _ _ _ _ => F1
  rename News _ _ _ _ => N1
  refine for_inv F1 (by rfl) (by rfl) ?_
  k_steps
  refine' loop_list (fun _ : Int × Tok => news) (fun c => [(Str.ofString "worth", .int c.1 c.2)]) [] (fun i c => c.1 = (ns.take i).foldl (fun a n => 16 * a + n) 0) (0, _) rfl F1 N1 rfl (fun _ => hl) ?k1 rfl ?k2 ?k3
  case k1 =>
    intro p hp
    rcases List.mem_singleton.mp hp with rfl
    with_unfolding_all rfl
  case k2 =>
    rintro ⟨c, tc⟩ i v u h tk own hv hoff hP F2 N2
    have hi' : i < ns.length := by rw [← hi.length]; exact (List.getElem?_eq_some_iff.mp hv).1
    obtain ⟨t, hx⟩ := hi.get i ns[i] (List.getElem?_eq_getElem hi')
    have ev : v = .int ns[i] t := by rw [hx] at hv; exact (Option.some.inj hv).symm
    subst ev
    k_steps
    rename Fr _ _ _ _ => F3
    rename News _ _ _ _ => N3
    refine' turn_end (16 * c + ns[i], _) F3 N3 ?a1 ?a2 hoff ?a3 ?a4 ?a5
    case a1 => exact fun p hp => List.mem_append.mpr (.inl hp)
    case a2 => exact fun p hp => List.mem_append.mpr (.inr hp)
    case a3 =>
      intro p hp
      rcases List.mem_singleton.mp hp with rfl
      with_unfolding_all rfl
    case a4 =>
      intro z z1 z2 z3
      have z4 := z2 _ (List.mem_singleton.mpr rfl)
      dsimp only at z4
      simp only [kstB, if_neg z1, if_neg z4, z3, Bool.false_eq_true, if_false]
    case a5 =>
      have h9 : c = _ := hP
      show 16 * c + ns[i] = _
      rw [h9, List.take_add_one, List.getElem?_eq_getElem hi', List.foldl_append]
      rfl
  case k3 =>
    rintro ⟨c, tc⟩ u h tk hP F2 N2
    k_steps
    have e : c = ns.foldl (fun a n => 16 * a + n) 0 := by
      have h9 : c = _ := hP
      rw [hi.length, List.take_length] at h9
      exact h9
    exact cb_retI hret e (by assumption) (by assumption)
end

section
open PySem PySem.W PyProof.Rows
set_option Elab.async false
set_option maxRecDepth 100000
set_option maxHeartbeats 8000000
set_option pp.deepTerms false
theorem offC3 : True := by
  w_top off
  k_with_none
  exact trivial
theorem said3 : True := by
  k_with "mine steps" => (repeat' (first | (k_unfold; (try dsimp only)) | (k_end; kc_close) | ((fail_if_success (with_reducible show wpAny _ _ (exec (PySem.Stmt.For _ _ _ _ _) _) _ _ _)); (fail_if_success (with_reducible show wpAny _ _ (pyIter _) _ _ _)); first | walk1 | (dsimp only; walk1) | (leave1; walk_say "STEP leave1"; (try dsimp only))) | fail "no step"))
  exact trivial
/-- the sign of a figure -/
def dig (u : Bool) (d : Nat) : Nat := if d < 10 then 48 + d else if u then 55 + d else 87 + d
def wordL (body great : Nat) : Nat → List Nat
  | 0 => []
  | k + 1 => dig (great / 2 ^ k % 2 == 1) (body / 16 ^ k % 16) :: wordL body great k
theorem wordL_length (body great : Nat) : ∀ n, (wordL body great n).length = n
  | 0 => rfl
  | n + 1 => by simp [wordL, wordL_length body great n]
theorem itemU : ∀ d : Nat, d < 16 → Txt.item (Str.ofString "0123456789ABCDEF") (d : Int) = ⟨#[dig true d]⟩ := by decide +kernel
theorem itemL : ∀ d : Nat, d < 16 → Txt.item (Str.ofString "0123456789abcdef") (d : Int) = ⟨#[dig false d]⟩ := by decide +kernel
theorem cons_str (c : Nat) (l : List Nat) : (⟨#[c]⟩ : Str) ++ ⟨l.toArray⟩ = ⟨(c :: l).toArray⟩ := by
  refine Str.ext' ?_
  rw [Str.cps_append]
  simp
theorem said4 : True := by
  k_with "binaryOp Pow int int" => ((k_here; (first | refine powN (b := 2) rfl (by decide) (by omega) ?_ | refine powN (b := 16) rfl (by decide) (by omega) ?_); (try dsimp only)))
  k_with "binaryOp FloorDiv int int" => ((k_here; refine fdivN rfl (Nat.pow_pos (by decide)) (by assumption) ?_; (try dsimp only)))
  k_with "binaryOp Mod int int" => ((k_here; (first | refine fmodN (b := 2) rfl (by decide) (by decide) ?_ | refine fmodN (b := 16) rfl (by decide) (by decide) ?_); (try dsimp only)))
  exact trivial
theorem word {w mean mg mb news} {b z g : Int} {tb tz tg : Tok} (body n great : Nat) (hb : b = (body : Int)) (hz : z = (n : Int)) (hg : g = (great : Int)) (hn : n ≤ 9) :
    Con0 w mean mg mb 84 1 8 [.int b tb, .int z tz, .int g tg] news (fun t => .str ⟨(wordL body great n).toArray⟩ t) := by
  subst hb hz hg
  unfold Con0
  k_fill
  intro dp un gd cn cs a ccd cl outer A₀ base h₀ L m s Q E B F X N T hk hd hu hret
  refine wpAny_call ?_
  k_dflt cell_enter
  walk_at "mine steps"
  rename Fr _ _ _ _ => F1
  rename News _ _ _ _ => N1
  refine for_inv F1 (by rfl) (by rfl) ?_
  walk_at "mine steps"
  rename Fr _ _ _ _ => F2
  rename News _ _ _ _ => N2
  rename IsRange _ _ _ _ _ _ _ _ => R2
  refine' loop_range (n := n) (fun _ : Str × Tok => news) (fun c => [(Str.ofString "word", .str c.1 c.2)]) [Str.ofString "row"] (fun i c => c.1 = ⟨(wordL body great i).toArray⟩) (Str.ofString "", _) rfl R2 (small0 (by omega)) (size0 n) F2 N2 rfl ?k1 rfl ?k2 ?k3
  case k1 =>
    intro p hp
    rcases List.mem_singleton.mp hp with rfl
    with_unfolding_all rfl
  case k2 =>
    rintro ⟨c, tc⟩ i t u h tk own hi hoff hP F3 N3
    have hP' : c = _ := hP
    subst hP'
    rw [Int.zero_add] at F3
    have b2 : 2 ^ i < 2 ^ 100 := Nat.pow_lt_pow_right (by decide) (by omega)
    have b16 : 16 ^ i < 2 ^ 100 := Nat.lt_of_le_of_lt (Nat.pow_le_pow_right (by decide) (show i ≤ 9 by omega)) (by decide)
    clear F2 N2 R2
    have hw : (⟨(wordL body great i).toArray⟩ : Str).length = i := by
      show (wordL body great i).toArray.size = i
      simp [wordL_length]
    have hd16 : body / 16 ^ i % 16 < 16 := Nat.mod_lt _ (by decide)
    walk_at "mine steps"
    · rename Fr _ _ _ _ => F4
      rename News _ _ _ _ => N4
      rename (_ : Int) = 1 => hbit
      refine' turn_end (_, _) F4 N4 ?a1 ?a2 hoff ?a3 ?a4 ?a5
      case a1 => exact fun p hp => List.mem_append.mpr (.inl hp)
      case a2 => exact fun p hp => List.mem_append.mpr (.inr hp)
      case a3 =>
        intro p hp
        rcases List.mem_singleton.mp hp with rfl
        with_unfolding_all rfl
      case a4 =>
        intro z z1 z2 z3
        have z4 := z2 _ (List.mem_singleton.mpr rfl)
        have z5 : z ≠ Str.ofString "row" := fun e => by subst e; revert z3; decide +kernel
        dsimp only at z4
        simp only [kstB, if_neg z1, if_neg z4, if_neg z5, z3, Bool.false_eq_true, if_false]
      case a5 =>
        show Txt.item _ _ ++ _ = _
        rw [itemU _ hd16, cons_str, wordL, show (great / 2 ^ i % 2 == 1) = true from by simpa using (show great / 2 ^ i % 2 = 1 by omega)]
    · rename Fr _ _ _ _ => F4
      rename News _ _ _ _ => N4
      rename (_ : Int) ≠ 1 => hbit
      refine' turn_end (_, _) F4 N4 ?a1 ?a2 hoff ?a3 ?a4 ?a5
      case a1 => exact fun p hp => List.mem_append.mpr (.inl hp)
      case a2 => exact fun p hp => List.mem_append.mpr (.inr hp)
      case a3 =>
        intro p hp
        rcases List.mem_singleton.mp hp with rfl
        with_unfolding_all rfl
      case a4 =>
        intro z z1 z2 z3
        have z4 := z2 _ (List.mem_singleton.mpr rfl)
        have z5 : z ≠ Str.ofString "row" := fun e => by subst e; revert z3; decide +kernel
        dsimp only at z4
        simp only [kstB, if_neg z1, if_neg z4, if_neg z5, z3, Bool.false_eq_true, if_false]
      case a5 =>
        show Txt.item _ _ ++ _ = _
        rw [itemL _ hd16, cons_str, wordL, show (great / 2 ^ i % 2 == 1) = false from by simpa using (show ¬ great / 2 ^ i % 2 = 1 by omega)]
  case k3 =>
    rintro ⟨c, tc⟩ u h tk hP F3 N3
    walk_at "mine steps"
    exact cb_retS hret hP (by assumption) (by assumption)
end

section
open PySem PySem.W PyProof.Rows
set_option Elab.async false
set_option maxRecDepth 100000
set_option maxHeartbeats 8000000
set_option pp.deepTerms false
theorem offC4 : True := by
  w_top off
  k_with_none
  exact trivial
local macro_rules | `(tactic| walk_at "call builtin:len") => `(tactic| (k_here; k_dflt (refine' len_led ?k1 ?k2 ?k3 ?_; (case k1 => k_asm); (case k2 => k_mem); (case k3 => omega)); (try dsimp only)))
local macro_rules | `(tactic| k_all) => `(tactic| assumption)
theorem said5 : True := by
  k_with "mine steps" => (repeat' (first | (k_unfold; (try dsimp only)) | (k_end; kc_close) | ((fail_if_success (with_reducible show wpAny _ _ (exec (PySem.Stmt.For _ _ _ _ _) _) _ _ _)); (fail_if_success (with_reducible show wpAny _ _ (pyIter _) _ _ _)); first | walk1 | (dsimp only; walk1) | (leave1; walk_say "STEP leave1"; (try dsimp only))) | fail "no step"))
  k_with "call ref" => (first | cell_ask (isxdigit _ _) | cell_ask (isalpha _ _) | cell_ask (ctrl _ _))
  k_with "mine a3" => ((intro p hp; rcases List.mem_cons.mp hp with hp | hp; (· rw [hp]; with_unfolding_all rfl); (· rw [List.mem_singleton.mp hp]; with_unfolding_all rfl)))
  k_with "mine a4" => ((intro z z1 z2 z3; (have z4 := z2 _ (.head _)); (have z5 := z2 _ (.tail _ (.head _))); (dsimp only at z4 z5); (simp only [kstB, if_neg z1, if_neg z4, if_neg z5, z3, Bool.false_eq_true, if_false])))
  exact trivial

def RowsIn (led : List (Addr × Obj)) : List Value → List (List Int) → Prop
  | [], [] => True
  | v :: vs, r :: rs => (∃ a us n, v = .ref a ∧ (a, listOf us.toArray n) ∈ led ∧ IntsAre us r) ∧ RowsIn led vs rs
  | _, _ => False
theorem RowsIn.mono {led led' : List (Addr × Obj)} (h : ∀ p ∈ led, p ∈ led') : ∀ {vs : List Value} {rs : List (List Int)}, RowsIn led vs rs → RowsIn led' vs rs
  | [], [], _ => trivial
  | _ :: _, _ :: _, ⟨⟨a, us, n, e, m, i⟩, r⟩ => ⟨⟨a, us, n, e, h _ m, i⟩, r.mono h⟩
  | [], _ :: _, x => x.elim
  | _ :: _, [], x => x.elim
theorem RowsIn.length {led : List (Addr × Obj)} : ∀ {vs : List Value} {rs : List (List Int)}, RowsIn led vs rs → vs.length = rs.length
  | [], [], _ => rfl
  | _ :: _, _ :: _, ⟨_, r⟩ => congrArg (· + 1) r.length
  | [], _ :: _, x => x.elim
  | _ :: _, [], x => x.elim
theorem RowsIn.snoc {led : List (Addr × Obj)} {a : Addr} {us : List Value} {n : Nat} {r : List Int} (hm : (a, listOf us.toArray n) ∈ led) (hi : IntsAre us r) : ∀ {vs : List Value} {rs : List (List Int)}, RowsIn led vs rs → RowsIn led (vs ++ [.ref a]) (rs ++ [r])
  | [], [], _ => ⟨⟨a, us, n, rfl, hm, hi⟩, trivial⟩
  | _ :: _, _ :: _, ⟨h, r⟩ => ⟨h, r.snoc hm hi⟩
  | [], _ :: _, x => x.elim
  | _ :: _, [], x => x.elim

def isX (c : Nat) : Bool := decide ((48 ≤ c ∧ c ≤ 57) ∨ (65 ≤ c ∧ c ≤ 70) ∨ (97 ≤ c ∧ c ≤ 102))
def isA (c : Nat) : Bool := decide ((65 ≤ c ∧ c ≤ 90) ∨ (97 ≤ c ∧ c ≤ 122))
def figV (c : Nat) : Int := ((c % 32 : Nat) : Int) + (if isA c then 9 else -16)
structure RSt where
  found : List (List Int)
  row : List Int
  inside : Bool
def rstep (size : Nat) (st : RSt) (c : Nat) : RSt :=
  if st.inside && isX c then ⟨st.found, st.row ++ [figV c], true⟩
  else ⟨if st.inside && st.row.length == size then st.found ++ [st.row] else st.found, [], c == 35⟩
def readL (size : Nat) (cps : List Nat) : RSt := cps.foldl (rstep size) ⟨[], [], false⟩
structure LSt where
  fv : List Value
  nf : Nat
  ar : Addr
  rv : List Value
  nr : Nat
  rows : List (Addr × Obj)
  b : Bool

theorem ints_snoc {n : Int} {t : Tok} : ∀ {vs : List Value} {ns : List Int}, IntsAre vs ns → IntsAre (vs ++ [.int n t]) (ns ++ [n])
  | _, _, .nil => .cons _ _ .nil
  | _, _, .cons _ _ h => .cons _ _ (ints_snoc h)
theorem readL_succ {size i n : Nat} {l : List Nat} (h : l[i]? = some n) : readL size (l.take (i + 1)) = rstep size (readL size (l.take i)) n := by
  unfold readL
  rw [List.take_add_one, h, List.foldl_append]
  rfl
theorem hash_eq (n : Nat) : ((⟨#[n]⟩ : Str) == Str.ofString "#") = (n == 35) := by
  have e : Str.ofString "#" = ⟨#[35]⟩ := by decide +kernel
  rw [e]
  by_cases h : n = 35
  · subst h; rfl
  · have h1 : (n == 35) = false := by simpa using h
    have h2 : (⟨#[n]⟩ : Str) ≠ ⟨#[35]⟩ := fun q => h (by injection q with q; simpa using q)
    rw [h1]
    simpa using h2
theorem allLt_out {d : Nat} : ∀ {l : List (Addr × Obj)}, AllLt d l → ∀ p ∈ l, p.1 ≠ d
  | [], _, _, h => nomatch h
  | _ :: _, ⟨h, _⟩, _, .head _ => Nat.ne_of_lt h
  | _ :: _, ⟨_, r⟩, p, .tail _ m => allLt_out r p m
theorem stepFig {size n : Nat} {st : RSt} (h : st.inside = true) (hx : isX n = true) : rstep size st n = ⟨st.found, st.row ++ [figV n], true⟩ := by unfold rstep; rw [h, hx]; rfl
theorem stepOut {size n : Nat} {st : RSt} (h : st.inside = false) : rstep size st n = ⟨st.found, [], n == 35⟩ := by unfold rstep; rw [h]; rfl
theorem stepEnd {size n : Nat} {st : RSt} (h : st.inside = true) (hx : isX n = false) (hl : st.row.length = size) : rstep size st n = ⟨st.found ++ [st.row], [], n == 35⟩ := by
  unfold rstep; rw [h, hx, show (st.row.length == size) = true from by simpa using hl]; rfl
theorem stepNot {size n : Nat} {st : RSt} (h : st.inside = true) (hx : isX n = false) (hl : st.row.length ≠ size) : rstep size st n = ⟨st.found, [], n == 35⟩ := by
  unfold rstep; rw [h, hx, show (st.row.length == size) = false from by simpa using hl]; rfl
section
variable {ar' af l : Addr} {o1 o2 o3 : Obj} {rows news own rest : List (Addr × Obj)}
theorem inRest (er : rest = rows ++ news ++ own) {p : Addr × Obj} (h : p ∈ rows ++ news) : p ∈ rest := by rw [er]; exact List.mem_append.mpr (.inl h)
theorem ownRest (er : rest = rows ++ news ++ own) {p : Addr × Obj} (h : p ∈ own) : p ∈ rest := by rw [er]; exact List.mem_append.mpr (.inr h)
theorem endA1 (er : rest = rows ++ news ++ own) : ∀ p ∈ (ar', o1) :: (af, o2) :: (rows ++ news), p ∈ (ar', o1) :: (af, o2) :: rest := by
  intro p hp
  rcases List.mem_cons.mp hp with rfl | hp
  · exact .head _
  · rcases List.mem_cons.mp hp with rfl | hp
    · exact .tail _ (.head _)
    · exact .tail _ (.tail _ (inRest er hp))
theorem endA2 (er : rest = rows ++ news ++ own) : ∀ p ∈ own, p ∈ (ar', o1) :: (af, o2) :: rest := fun _ hp => .tail _ (.tail _ (ownRest er hp))
theorem endA0 (h1 : ∀ p ∈ own, p.1 ≠ ar') (h2 : ∀ p ∈ own, p.1 ≠ af) (h3 : ∀ p ∈ own, ∀ q ∈ rows ++ news, p.1 ≠ q.1) : OwnOff own (((ar', o1) :: (af, o2) :: (rows ++ news)).map (·.1)) := by
  intro p hp b hb
  obtain ⟨q, hq, rfl⟩ := List.mem_map.mp hb
  rcases List.mem_cons.mp hq with rfl | hq
  · exact h1 p hp
  · rcases List.mem_cons.mp hq with rfl | hq
    · exact h2 p hp
    · exact h3 p hp q hq
theorem endB1 (er : rest = rows ++ news ++ own) : ∀ p ∈ (l, o3) :: (af, o2) :: (rows ++ news), p ∈ (l, o3) :: (ar', o1) :: (af, o2) :: rest := by
  intro p hp
  rcases List.mem_cons.mp hp with rfl | hp
  · exact .head _
  · rcases List.mem_cons.mp hp with rfl | hp
    · exact .tail _ (.tail _ (.head _))
    · exact .tail _ (.tail _ (.tail _ (inRest er hp)))
theorem endB2 (er : rest = rows ++ news ++ own) : ∀ p ∈ own, p ∈ (l, o3) :: (ar', o1) :: (af, o2) :: rest := fun _ hp => .tail _ (.tail _ (.tail _ (ownRest er hp)))
theorem endB0 (er : rest = rows ++ news ++ own) (hl : ar' < l ∧ af < l ∧ AllLt l rest) (h2 : ∀ p ∈ own, p.1 ≠ af) (h3 : ∀ p ∈ own, ∀ q ∈ rows ++ news, p.1 ≠ q.1) : OwnOff own (((l, o3) :: (af, o2) :: (rows ++ news)).map (·.1)) :=
  endA0 (fun p hp => allLt_out hl.2.2 p (ownRest er hp)) h2 h3
theorem endC1 (er : rest = rows ++ news ++ own) : ∀ p ∈ (l, o3) :: (af, o2) :: ((ar', o1) :: rows ++ news), p ∈ (l, o3) :: (ar', o1) :: (af, o2) :: rest := by
  intro p hp
  rcases List.mem_cons.mp hp with rfl | hp
  · exact .head _
  · rcases List.mem_cons.mp hp with rfl | hp
    · exact .tail _ (.tail _ (.head _))
    · rw [List.cons_append] at hp
      rcases List.mem_cons.mp hp with rfl | hp
      · exact .tail _ (.head _)
      · exact .tail _ (.tail _ (.tail _ (inRest er hp)))
theorem endC0 (er : rest = rows ++ news ++ own) (hl : ar' < l ∧ af < l ∧ AllLt l rest) (h1 : ∀ p ∈ own, p.1 ≠ ar') (h2 : ∀ p ∈ own, p.1 ≠ af) (h3 : ∀ p ∈ own, ∀ q ∈ rows ++ news, p.1 ≠ q.1) : OwnOff own (((l, o3) :: (af, o2) :: ((ar', o1) :: rows ++ news)).map (·.1)) := by
  refine endA0 (fun p hp => allLt_out hl.2.2 p (ownRest er hp)) h2 fun p hp q hq => ?_
  rw [List.cons_append] at hq
  rcases List.mem_cons.mp hq with rfl | hq
  · exact h1 p hp
  · exact h3 p hp q hq
theorem endLt (er : rest = rows ++ news ++ own) (hl : ar' < l ∧ af < l ∧ AllLt l rest) (p : Addr × Obj) (h : p ∈ rows ∨ p ∈ news) : p.1 ≠ l := allLt_out hl.2.2 p (inRest er (List.mem_append.mpr h))
end
theorem read {w mean mg mb news} {x : Str} {tx : Tok} {z : Int} {tz : Tok} (size : Nat) (hz : z = (size : Int)) (hx : x.cps.size ≤ 1000) :
    Con w mean mg mb 91 4 32 [.str x tx, .int z tz] news (fun v tl => ∃ a fv n rows, v = .ref a ∧ tl = (a, listOf fv.toArray n) :: rows ∧ RowsIn rows fv (readL size x.cps.toList).found) := by
  subst hz
  unfold Con
  k_fill
  intro dp un gd cn cs a ccd cl outer A₀ base h₀ L m s Q E B F X N T hk hd hu hret
  refine wpAny_call ?_
  k_dflt cell_enter
  walk_at "mine steps"
  rename Fr _ _ _ _ => F1
  rename News _ _ _ _ => N1
  refine for_inv F1 (by rfl) (by rfl) ?_
  walk_at "mine steps"
  rename (_ < _) ∧ AllLt _ _ => q2
  rename ∀ (p : Addr × Obj), p ∈ news → p.1 < _ => q1
  rename_i af _ _ _ ar _ _ _
  have q2' := allLt_out q2.2
  refine' loop_str (σ := LSt) (fun c => (c.ar, listOf c.rv.toArray c.nr) :: (af, listOf c.fv.toArray c.nf) :: (c.rows ++ news))
    (fun c => [(Str.ofString "row", .ref c.ar), (Str.ofString "inside", .bool c.b)]) []
    (fun i c => c.b = (readL size (x.cps.toList.take i)).inside ∧ IntsAre c.rv (readL size (x.cps.toList.take i)).row ∧ RowsIn c.rows c.fv (readL size (x.cps.toList.take i)).found ∧
      c.rv.length ≤ i ∧ c.fv.length ≤ i ∧ af ≠ c.ar ∧ (∀ p ∈ c.rows, p.1 ≠ af ∧ p.1 ≠ c.ar) ∧ (∀ p ∈ news, p.1 ≠ c.ar) ∧ (∀ p ∈ c.rows, ∀ q ∈ news, q.1 ≠ p.1))
    ⟨[], 0, ar, [], 0, [], false⟩ rfl F1 N1 rfl ?k1 ?k0 ?k2 ?k3
  case k1 =>
    intro p hp
    rcases List.mem_cons.mp hp with rfl | hp
    · with_unfolding_all rfl
    · rcases List.mem_singleton.mp hp with rfl
      with_unfolding_all rfl
  case k0 =>
    exact ⟨rfl, IntsAre.nil, trivial, Nat.le_refl _, Nat.le_refl _, Nat.ne_of_lt q2.1, (fun _ h => nomatch h), q2', (fun _ h => nomatch h)⟩
  case k2 =>
    rintro ⟨fv, nf, ar', rv, nr, rows, b⟩ i n t u h tk own hn hoff ⟨hb, hr, hf, hl1, hl2, hne, hrows, hnews, hrn⟩ F3 N3
    dsimp only at hb hr hf hl1 hl2 hne hrows hnews hrn hoff F3 N3
    have hi : i < 1000 := by
      have := (Array.getElem?_eq_some_iff.mp hn).1
      omega
    have z1 : ar' ≠ af := Ne.symm hne
    have o1 : ∀ p ∈ own, p.1 ≠ ar' := fun p hp => hoff p hp _ (.head _)
    have o2 : ∀ p ∈ own, p.1 ≠ af := fun p hp => hoff p hp _ (.tail _ (.head _))
    have o3 : ∀ p ∈ own, ∀ q ∈ rows ++ news, p.1 ≠ q.1 := fun p hp q hq => hoff p hp _ (.tail _ (.tail _ (List.mem_map.mpr ⟨q, hq, rfl⟩)))
    clear hoff
    obtain ⟨rest, er⟩ : ∃ rest, rest = rows ++ news ++ own := ⟨_, rfl⟩
    have e1 : ∀ p ∈ rest, p.1 ≠ ar' := by
      intro p hp
      rw [er] at hp
      rcases List.mem_append.mp hp with hp | hp
      · rcases List.mem_append.mp hp with hp | hp
        · exact (hrows p hp).2
        · exact hnews p hp
      · exact o1 p hp
    have e2 : ∀ p ∈ rest, p.1 ≠ af := by
      intro p hp
      rw [er] at hp
      rcases List.mem_append.mp hp with hp | hp
      · rcases List.mem_append.mp hp with hp | hp
        · exact (hrows p hp).1
        · exact Nat.ne_of_lt (q1 p hp)
      · exact o2 p hp
    rw [List.cons_append, List.cons_append, ← er] at N3
    clear q2 q2' F1 N1
    have hn' : x.cps.toList[i]? = some n := by rw [Array.getElem?_toList]; exact hn
    cases b with
    | false =>
      walk_at "mine steps"
      rename Fr _ _ _ _ => F4
      rename News _ _ _ _ => N4
      rename (_ < _ ∧ _ < _ ∧ AllLt _ _) => hl
      rw [hash_eq] at F4
      refine' turn_end (⟨fv, nf, _, [], 0, rows, n == 35⟩ : LSt) F4 N4 ?a1 ?a2 ?a0 ?a3 ?a4 ?a5
      case a1 => exact endB1 er
      case a2 => exact endB2 er
      case a0 => exact endB0 er hl o2 o3
      case a3 => walk_at "mine a3"
      case a4 => walk_at "mine a4"
      case a5 =>
        rw [readL_succ hn', stepOut hb.symm]
        exact ⟨rfl, IntsAre.nil, hf, Nat.zero_le _, Nat.le_succ_of_le hl2, Nat.ne_of_lt hl.2.1, (fun p hp => ⟨(hrows p hp).1, endLt er hl p (.inl hp)⟩), (fun p hp => endLt er hl p (.inr hp)), hrn⟩
    | true =>
      walk_at "mine steps"
      · rename Fr _ _ _ _ => F4
        rename News _ _ _ _ => N4
        rename ((65 ≤ n ∧ n ≤ 90) ∨ _) => hA
        rename ((48 ≤ n ∧ n ≤ 57) ∨ _) => hX
        rw [List.push_toArray] at N4
        refine' turn_end (⟨fv, nf, ar', rv ++ [_], nr + 1, rows, true⟩ : LSt) F4 N4 ?a1 ?a2 ?a0 ?a3 ?a4 ?a5
        case a1 => exact endA1 er
        case a2 => exact endA2 er
        case a0 => exact endA0 o1 o2 o3
        case a3 => walk_at "mine a3"
        case a4 => walk_at "mine a4"
        case a5 =>
          have e9 := stepFig (size := size) hb.symm (show isX n = true from decide_eq_true hX)
          have e8 : figV n = ((n % 32 : Nat) : Int) + 9 := by unfold figV; rw [show isA n = true from decide_eq_true hA]; rfl
          rw [readL_succ hn', e9, e8]
          refine ⟨rfl, ints_snoc hr, hf, ?_, Nat.le_succ_of_le hl2, hne, hrows, hnews, hrn⟩
          show (rv ++ [_]).length ≤ _
          rw [List.length_append, List.length_singleton]; omega
      · rename Fr _ _ _ _ => F4
        rename News _ _ _ _ => N4
        rename ¬ ((65 ≤ n ∧ n ≤ 90) ∨ _) => hA
        rename ((48 ≤ n ∧ n ≤ 57) ∨ _) => hX
        rw [List.push_toArray] at N4
        refine' turn_end (⟨fv, nf, ar', rv ++ [_], nr + 1, rows, true⟩ : LSt) F4 N4 ?a1 ?a2 ?a0 ?a3 ?a4 ?a5
        case a1 => exact endA1 er
        case a2 => exact endA2 er
        case a0 => exact endA0 o1 o2 o3
        case a3 => walk_at "mine a3"
        case a4 => walk_at "mine a4"
        case a5 =>
          have e9 := stepFig (size := size) hb.symm (show isX n = true from decide_eq_true hX)
          have e8 : figV n = ((n % 32 : Nat) : Int) + -16 := by unfold figV; rw [show isA n = false from decide_eq_false hA]; rfl
          rw [readL_succ hn', e9, e8]
          refine ⟨rfl, ints_snoc hr, hf, ?_, Nat.le_succ_of_le hl2, hne, hrows, hnews, hrn⟩
          show (rv ++ [_]).length ≤ _
          rw [List.length_append, List.length_singleton]; omega
      · rename Fr _ _ _ _ => F4
        rename News _ _ _ _ => N4
        rename (_ < _ ∧ _ < _ ∧ AllLt _ _) => hl
        rename (((rv.length : Nat) : Int) = _) => hlen
        rename ¬ ((48 ≤ n ∧ n ≤ 57) ∨ _) => hX
        rw [hash_eq] at F4
        rw [List.push_toArray] at N4
        refine' turn_end (⟨fv ++ [.ref ar'], nf + 1, _, [], 0, (ar', listOf rv.toArray nr) :: rows, n == 35⟩ : LSt) F4 N4 ?a1 ?a2 ?a0 ?a3 ?a4 ?a5
        case a1 => exact endC1 er
        case a2 => exact endB2 er
        case a0 => exact endC0 er hl o1 o2 o3
        case a3 => walk_at "mine a3"
        case a4 => walk_at "mine a4"
        case a5 =>
          have hl' : (readL size (x.cps.toList.take i)).row.length = size := by rw [← hr.length]; omega
          rw [readL_succ hn', stepEnd hb.symm (show isX n = false from decide_eq_false hX) hl']
          refine ⟨rfl, IntsAre.nil, (hf.mono fun p hp => .tail _ hp).snoc (.head _) hr, Nat.zero_le _, ?_, Nat.ne_of_lt hl.2.1, ?_, (fun p hp => endLt er hl p (.inr hp)), ?_⟩
          · show (fv ++ [_]).length ≤ _
            rw [List.length_append, List.length_singleton]; omega
          · intro p hp
            rcases List.mem_cons.mp hp with rfl | hp
            · exact ⟨z1, Nat.ne_of_lt hl.1⟩
            · exact ⟨(hrows p hp).1, endLt er hl p (.inl hp)⟩
          · intro p hp q hq
            rcases List.mem_cons.mp hp with rfl | hp
            · exact hnews q hq
            · exact hrn p hp q hq
      · rename Fr _ _ _ _ => F4
        rename News _ _ _ _ => N4
        rename (_ < _ ∧ _ < _ ∧ AllLt _ _) => hl
        rename (((rv.length : Nat) : Int) ≠ _) => hlen
        rename ¬ ((48 ≤ n ∧ n ≤ 57) ∨ _) => hX
        rw [hash_eq] at F4
        refine' turn_end (⟨fv, nf, _, [], 0, rows, n == 35⟩ : LSt) F4 N4 ?a1 ?a2 ?a0 ?a3 ?a4 ?a5
        case a1 => exact endB1 er
        case a2 => exact endB2 er
        case a0 => exact endB0 er hl o2 o3
        case a3 => walk_at "mine a3"
        case a4 => walk_at "mine a4"
        case a5 =>
          have hl' : (readL size (x.cps.toList.take i)).row.length ≠ size := by rw [← hr.length]; omega
          rw [readL_succ hn', stepNot hb.symm (show isX n = false from decide_eq_false hX) hl']
          exact ⟨rfl, IntsAre.nil, hf, Nat.zero_le _, Nat.le_succ_of_le hl2, Nat.ne_of_lt hl.2.1, (fun p hp => ⟨(hrows p hp).1, endLt er hl p (.inl hp)⟩), (fun p hp => endLt er hl p (.inr hp)), hrn⟩
  case k3 =>
    rintro ⟨fv, nf, ar', rv, nr, rows, b⟩ u h tk ⟨hb, hr, hf, hl1, hl2, hne, hrows, hnews, hrn⟩ F3 N3
    dsimp only at hb hr hf hl1 hl2 hne hrows hnews hrn
    walk_at "mine steps"
    rename News h₀ L _ _ => N4
    refine hret (.ref af) ((af, listOf fv.toArray nf) :: (ar', listOf rv.toArray nr) :: rows) _ _ ⟨af, fv, nf, _, rfl, rfl, ?_⟩ (by assumption) ?_ ?_
    · rw [show x.cps.toList.take x.cps.size = x.cps.toList from by rw [← Array.length_toList, List.take_length]] at hf
      exact hf.mono fun p hp => .tail _ hp
    · intro p hp
      refine N4 p ?_
      rcases List.mem_append.mp hp with hp | hp
      · rcases List.mem_cons.mp hp with rfl | hp
        · exact .tail _ (.head _)
        · rcases List.mem_cons.mp hp with rfl | hp
          · exact .head _
          · exact .tail _ (.tail _ (List.mem_append.mpr (.inl hp)))
      · exact .tail _ (.tail _ (List.mem_append.mpr (.inr hp)))
    · intro p hp q hq
      rcases List.mem_cons.mp hp with rfl | hp
      · exact Nat.ne_of_lt (q1 q hq)
      · rcases List.mem_cons.mp hp with rfl | hp
        · exact hnews q hq
        · exact hrn p hp q hq
end

section
open PySem PySem.W PyProof.Rows PySem.Flt
set_option Elab.async false
set_option maxRecDepth 100000
section
variable {prog : Program} {w : World} {A : Around} {E : Value → Shared → Prop} {s : Shared} {Q : Value → Shared → Prop} {a b c : Value}
theorem max3 {h₀ : Heap} {L : Addr} {m : Str → Option Value} {news : List (Addr × Obj)} (hh : A.handled = none) (ha : NumV a) (hb : NumV b) (hc : NumV c) (F : Fr h₀ L s.heap m) (N : News h₀ L s.heap news)
    (h : ∀ h' tk, Fr h₀ L h' m → News h₀ L h' news → Q (if ltV a b then (if ltV b c then c else b) else (if ltV a c then c else a)) { s with heap := h', toks := tk }) :
    wpAny (model prog w) A (call (.builtin "max") [a, b, c]) Q E s := by
  have hT : (s.heap.push { cls := .type "tuple", data := .seq #[a, b, c] }).IsTuple s.heap.objs.size #[a, b, c] := ⟨_, Heap.get?_push_size _ rfl, rfl, 0, rfl⟩
  refine call_max_three (wpAny_pyIter_tuple hT ?_)
  have hsz : (s.heap.push { cls := .type "tuple", data := .seq #[a, b, c] }).objs.size = s.heap.objs.size + 1 := Heap.size_push ..
  refine ⟨_, [_, s.heap.objs.size], [_], _, _, _, _, rfl, Walks.tuple (A := A.in1) hh _ s.heap.objs.size (by rw [hsz]; exact Nat.ne_of_lt (Nat.lt_succ_self _)) #[a, b, c],
    ⟨⟨_, Heap.get?_push_size _ rfl, rfl, rfl⟩, hT.push _⟩, fun d hd => ?_, by simp, cmpOf_gt #[a, b, c] (by simp [ha, hb, hc]), fun v h' tk hP hk => ?_⟩
  · show d < ((s.heap.push _).push _).objs.size
    rw [Heap.size_push, hsz]
    rcases List.mem_cons.mp hd with rfl | hd
    · rw [hsz]; exact Nat.lt_succ_self _
    · rcases List.mem_cons.mp hd with rfl | hd
      · exact Nat.lt_succ_of_lt (Nat.lt_succ_self _)
      · cases hd
  · have hold : ∀ d o, s.heap.get? d = some o → h'.get? d = some o := fun d o e => by
      refine hk d o (fun hm => ?_) (Heap.get?_push_of_some _ (Heap.get?_push_of_some _ e))
      rcases List.mem_cons.mp hm with e1 | hm
      · have := Heap.lt_size e; rw [e1, hsz] at this; exact Nat.lt_irrefl _ (Nat.lt_of_succ_lt this)
      · cases hm
    have := h h' tk (F.grownK hold) (N.grown hold)
    have hv : v = if ltV a b then (if ltV b c then c else b) else (if ltV a c then c else a) := by
      cases h1 : ltV a b <;> cases h2 : ltV b c <;> cases h3 : ltV a c <;> simp [argBest, h1, h2, h3] at hP <;> simp [hP]
    rw [hv]; exact this
theorem min3 {h₀ : Heap} {L : Addr} {m : Str → Option Value} {news : List (Addr × Obj)} (hh : A.handled = none) (ha : NumV a) (hb : NumV b) (hc : NumV c) (F : Fr h₀ L s.heap m) (N : News h₀ L s.heap news)
    (h : ∀ h' tk, Fr h₀ L h' m → News h₀ L h' news → Q (if ltV b a then (if ltV c b then c else b) else (if ltV c a then c else a)) { s with heap := h', toks := tk }) :
    wpAny (model prog w) A (call (.builtin "min") [a, b, c]) Q E s := by
  have hT : (s.heap.push { cls := .type "tuple", data := .seq #[a, b, c] }).IsTuple s.heap.objs.size #[a, b, c] := ⟨_, Heap.get?_push_size _ rfl, rfl, 0, rfl⟩
  refine call_min_three (wpAny_pyIter_tuple hT ?_)
  have hsz : (s.heap.push { cls := .type "tuple", data := .seq #[a, b, c] }).objs.size = s.heap.objs.size + 1 := Heap.size_push ..
  refine ⟨_, [_, s.heap.objs.size], [_], _, _, _, _, rfl, Walks.tuple (A := A.in1) hh _ s.heap.objs.size (by rw [hsz]; exact Nat.ne_of_lt (Nat.lt_succ_self _)) #[a, b, c],
    ⟨⟨_, Heap.get?_push_size _ rfl, rfl, rfl⟩, hT.push _⟩, fun d hd => ?_, by simp, cmpOf_lt #[a, b, c] (by simp [ha, hb, hc]), fun v h' tk hP hk => ?_⟩
  · show d < ((s.heap.push _).push _).objs.size
    rw [Heap.size_push, hsz]
    rcases List.mem_cons.mp hd with rfl | hd
    · rw [hsz]; exact Nat.lt_succ_self _
    · rcases List.mem_cons.mp hd with rfl | hd
      · exact Nat.lt_succ_of_lt (Nat.lt_succ_self _)
      · cases hd
  · have hold : ∀ d o, s.heap.get? d = some o → h'.get? d = some o := fun d o e => by
      refine hk d o (fun hm => ?_) (Heap.get?_push_of_some _ (Heap.get?_push_of_some _ e))
      rcases List.mem_cons.mp hm with e1 | hm
      · have := Heap.lt_size e; rw [e1, hsz] at this; exact Nat.lt_irrefl _ (Nat.lt_of_succ_lt this)
      · cases hm
    have := h h' tk (F.grownK hold) (N.grown hold)
    have hv : v = if ltV b a then (if ltV c b then c else b) else (if ltV c a then c else a) := by
      cases h1 : ltV b a <;> cases h2 : ltV c b <;> cases h3 : ltV c a <;> simp [argBest, h1, h2, h3] at hP <;> simp [hP]
    rw [hv]; exact this
end
/-- the greatest of three floats, as max finds it -/
def maxF (x y z : UInt64) : UInt64 := if Float64.cmp x y == some .lt then (if Float64.cmp y z == some .lt then z else y) else (if Float64.cmp x z == some .lt then z else x)
def minF (x y z : UInt64) : UInt64 := if Float64.cmp y x == some .lt then (if Float64.cmp z y == some .lt then z else y) else (if Float64.cmp z x == some .lt then z else x)
section
variable {prog : Program} {w : World} {A : Around} {E : Value → Shared → Prop} {s : Shared} {Q : Value → Shared → Prop} {x y z : UInt64} {t u v : Tok}
theorem max3F {h₀ : Heap} {L : Addr} {m : Str → Option Value} {news : List (Addr × Obj)} (hh : A.handled = none) (F : Fr h₀ L s.heap m) (N : News h₀ L s.heap news)
    (h : ∀ h' tk r, Fr h₀ L h' m → News h₀ L h' news → Q (.float (maxF x y z) r) { s with heap := h', toks := tk }) :
    wpAny (model prog w) A (call (.builtin "max") [.float x t, .float y u, .float z v]) Q E s := by
  refine max3 hh (.float _ _) (.float _ _) (.float _ _) F N fun h' tk F' N' => ?_
  unfold maxF at h
  show Q (if (Float64.cmp x y == some .lt) = true then (if (Float64.cmp y z == some .lt) = true then .float z v else .float y u) else (if (Float64.cmp x z == some .lt) = true then .float z v else .float x t)) _
  by_cases h1 : (Float64.cmp x y == some .lt) = true
  · rw [if_pos h1]
    by_cases h2 : (Float64.cmp y z == some .lt) = true
    · rw [if_pos h2]; simpa only [if_pos h1, if_pos h2] using h h' tk v F' N'
    · rw [if_neg h2]; simpa only [if_pos h1, if_neg h2] using h h' tk u F' N'
  · rw [if_neg h1]
    by_cases h2 : (Float64.cmp x z == some .lt) = true
    · rw [if_pos h2]; simpa only [if_neg h1, if_pos h2] using h h' tk v F' N'
    · rw [if_neg h2]; simpa only [if_neg h1, if_neg h2] using h h' tk t F' N'
theorem min3F {h₀ : Heap} {L : Addr} {m : Str → Option Value} {news : List (Addr × Obj)} (hh : A.handled = none) (F : Fr h₀ L s.heap m) (N : News h₀ L s.heap news)
    (h : ∀ h' tk r, Fr h₀ L h' m → News h₀ L h' news → Q (.float (minF x y z) r) { s with heap := h', toks := tk }) :
    wpAny (model prog w) A (call (.builtin "min") [.float x t, .float y u, .float z v]) Q E s := by
  refine min3 hh (.float _ _) (.float _ _) (.float _ _) F N fun h' tk F' N' => ?_
  unfold minF at h
  show Q (if (Float64.cmp y x == some .lt) = true then (if (Float64.cmp z y == some .lt) = true then .float z v else .float y u) else (if (Float64.cmp z x == some .lt) = true then .float z v else .float x t)) _
  by_cases h1 : (Float64.cmp y x == some .lt) = true
  · rw [if_pos h1]
    by_cases h2 : (Float64.cmp z y == some .lt) = true
    · rw [if_pos h2]; simpa only [if_pos h1, if_pos h2] using h h' tk v F' N'
    · rw [if_neg h2]; simpa only [if_pos h1, if_neg h2] using h h' tk u F' N'
  · rw [if_neg h1]
    by_cases h2 : (Float64.cmp z x == some .lt) = true
    · rw [if_pos h2]; simpa only [if_neg h1, if_pos h2] using h h' tk v F' N'
    · rw [if_neg h2]; simpa only [if_neg h1, if_neg h2] using h h' tk t F' N'
end
end

section
open PySem PySem.W PyProof.Rows PySem.Flt
set_option Elab.async false
set_option maxRecDepth 100000
set_option maxHeartbeats 8000000
set_option pp.deepTerms false
theorem offC5 : True := by
  w_top off
  k_with_none
  exact trivial
local macro_rules | `(tactic| walk_at "call builtin:max") => `(tactic| (k_here; k_dflt (refine' max3F rfl ?k1 ?k2 ?_; (case k1 => k_asm); (case k2 => k_asm)); intro h' tk' r' F' N'; (try dsimp only); (try k_fold)))
local macro_rules | `(tactic| walk_at "call builtin:min") => `(tactic| (k_here; k_dflt (refine' min3F rfl ?k1 ?k2 ?_; (case k1 => k_asm); (case k2 => k_asm)); intro h' tk' r' F' N'; (try dsimp only); (try k_fold)))
theorem said6 : True := by
  k_with "mine steps" => (repeat' (first | (k_unfold; (try dsimp only)) | (k_end; kc_close) | ((fail_if_success (with_reducible show wpAny _ _ (exec (PySem.Stmt.For _ _ _ _ _) _) _ _ _)); (fail_if_success (with_reducible show wpAny _ _ (pyIter _) _ _ _)); first | walk1 | (dsimp only; walk1) | (leave1; walk_say "STEP leave1"; (try dsimp only))) | fail "no step"))
  k_with "binaryOp Div float float" => ((k_here; refine AutoFloatOps.truediv_1 (by first | assumption | decide +kernel) ?_; (try dsimp only [Made.post])))
  k_with "binaryOp Mod float float" => ((k_here; refine AutoFloatOps.mod_1 (by first | assumption | decide +kernel) ?_; (try dsimp only [Made.post])))
  exact trivial

abbrev tupF (x y z : UInt64) (t u v : Tok) : Obj := { cls := .type "tuple", data := .seq #[.float x t, .float y u, .float z v] }
def rngF (x y z : UInt64) : UInt64 := Float64.sub (maxF x y z) (minF x y z)
def offF (x y z c : UInt64) : UInt64 := Float64.div (Float64.sub (maxF x y z) c) (rngF x y z)
def hF (x y z : UInt64) : UInt64 :=
  if (Float64.cmp x (maxF x y z) == some .eq) = true then Float64.sub (offF x y z z) (offF x y z y)
  else if (Float64.cmp y (maxF x y z) == some .eq) = true then Float64.sub (Float64.add 0x4000000000000000 (offF x y z x)) (offF x y z z)
  else Float64.sub (Float64.add 0x4010000000000000 (offF x y z y)) (offF x y z x)
def hueF (x y z : UInt64) : UInt64 := (Float64.divmod (Float64.div (hF x y z) 0x4018000000000000) 0x3ff0000000000000).2
def satF (x y z : UInt64) : UInt64 := Float64.div (rngF x y z) (maxF x y z)
theorem ret_one {Q : Value → Shared → Prop} {h₀ h' : Heap} {L D : Addr} {o : Obj} {m : Str → Option Value} {news : List (Addr × Obj)} {s : Shared} {tk : Nat} {Post : Value → List (Addr × Obj) → Prop}
    (hret : ∀ v tl h' tk', Post v tl → Fr h₀ L h' m → News h₀ L h' (tl ++ news) → (∀ p ∈ tl, ∀ q ∈ news, q.1 ≠ p.1) → Q v { s with heap := h', toks := tk' })
    (hp : Post (.ref D) [(D, o)]) (F : Fr h₀ L h' m) (N : News h₀ L h' ((D, o) :: news)) (hl : ∀ p ∈ news, p.1 < D) : Q (.ref D) { s with heap := h', toks := tk } :=
  hret _ [(D, o)] h' tk hp F N fun p hp q hq => by rw [List.mem_singleton.mp hp]; exact Nat.ne_of_lt (hl q hq)
theorem rgbC {w mean mg mb news} {x y z : UInt64} {tx ty tz : Tok} (hE : (Float64.cmp (minF x y z) (maxF x y z) == some .eq) = false) (hM : ¬ Float64.isZero (maxF x y z) = true) (hR : ¬ Float64.isZero (Float64.sub (maxF x y z) (minF x y z)) = true) :
    Con w mean mg mb 21 1 8 [.float x tx, .float y ty, .float z tz] news (fun v tl => ∃ D t1 t2 t3, v = .ref D ∧ tl = [(D, tupF (hueF x y z) (satF x y z) (maxF x y z) t1 t2 t3)]) := by
  unfold Con
  k_fill
  intro dp un gd cn cs a ccd cl outer A₀ base h₀ L m s Q E B F X N T hk hd hu hret
  refine wpAny_call ?_
  k_dflt cell_enter
  walk_at "mine steps"
  · rename (Float64.cmp x (maxF x y z) == some .eq) = true => hq
    rename News h₀ L _ _ => N9
    exact ret_one hret ⟨_, _, _, _, rfl, by unfold hueF hF; rw [if_pos hq]; rfl⟩ (by assumption) N9 (by assumption)
  · rename (Float64.cmp x (maxF x y z) == some .eq) = false => hq
    rename (Float64.cmp y (maxF x y z) == some .eq) = true => hq2
    rename News h₀ L _ _ => N9
    exact ret_one hret ⟨_, _, _, _, rfl, by unfold hueF hF; rw [if_neg (by rw [hq]; decide), if_pos hq2]; rfl⟩ (by assumption) N9 (by assumption)
  · rename (Float64.cmp x (maxF x y z) == some .eq) = false => hq
    rename (Float64.cmp y (maxF x y z) == some .eq) = false => hq2
    rename News h₀ L _ _ => N9
    exact ret_one hret ⟨_, _, _, _, rfl, by unfold hueF hF; rw [if_neg (by rw [hq]; decide), if_neg (by rw [hq2]; decide)]; rfl⟩ (by assumption) N9 (by assumption)
theorem rgbG {w mean mg mb news} {x y z : UInt64} {tx ty tz : Tok} (hE : (Float64.cmp (minF x y z) (maxF x y z) == some .eq) = true) :
    Con w mean mg mb 21 1 8 [.float x tx, .float y ty, .float z tz] news (fun v tl => ∃ D t1 t2 t3, v = .ref D ∧ tl = [(D, tupF 0 0 (maxF x y z) t1 t2 t3)]) := by
  unfold Con
  k_fill
  intro dp un gd cn cs a ccd cl outer A₀ base h₀ L m s Q E B F X N T hk hd hu hret
  refine wpAny_call ?_
  k_dflt cell_enter
  walk_at "mine steps"
  rename News h₀ L _ _ => N9
  exact ret_one hret ⟨_, _, _, _, rfl, rfl⟩ (by assumption) N9 (by assumption)
/-- what hsv_to_rgb gives -/
def fracF (h : UInt64) (i : Int) : UInt64 := Float64.sub (Float64.mul h 0x4018000000000000) (Float64.ofInt i)
def bP (v s : UInt64) : UInt64 := Float64.mul v (Float64.sub 0x3ff0000000000000 s)
def bQ (v s f : UInt64) : UInt64 := Float64.mul v (Float64.sub 0x3ff0000000000000 (Float64.mul s f))
def bT (v s f : UInt64) : UInt64 := Float64.mul v (Float64.sub 0x3ff0000000000000 (Float64.mul s (Float64.sub 0x3ff0000000000000 f)))
def backF (h s v : UInt64) (i : Nat) : UInt64 × UInt64 × UInt64 :=
  match i with
  | 0 => (v, bT v s (fracF h 0), bP v s)
  | 1 => (bQ v s (fracF h 1), v, bP v s)
  | 2 => (bP v s, v, bT v s (fracF h 2))
  | 3 => (bP v s, bQ v s (fracF h 3), v)
  | 4 => (bT v s (fracF h 4), bP v s, v)
  | _ => (v, bP v s, bQ v s (fracF h 5))
theorem big_pow : 5 < 2 ^ 1024 - 2 ^ 970 := by decide +kernel
theorem pick6 {k z : Int} {i : Nat} (hi : z = (i : Int)) (h6 : i < 6) (h : z.fmod 6 = k) : (i : Int) = k := by
  rw [hi, Int.fmod_eq_emod_of_nonneg _ (by decide)] at h; omega
theorem backC {w mean mg mb news} {h s' v : UInt64} {t1 t2 t3 : Tok} (i : Nat) (hs : (Float64.cmp s' 0 == some .eq) = false) (h6 : i < 6) (hn : Float64.isNaN (Float64.mul h 0x4018000000000000) = false) (hf : Float64.isInf (Float64.mul h 0x4018000000000000) = false)
    (hi : toInt Float64.truncOf (Float64.mul h 0x4018000000000000) = (i : Int)) :
    Con w mean mg mb 28 1 8 [.float h t1, .float s' t2, .float v t3] news (fun v' tl => ∃ D u1 u2 u3, v' = .ref D ∧ tl = [(D, tupF (backF h s' v i).1 (backF h s' v i).2.1 (backF h s' v i).2.2 u1 u2 u3)]) := by
  unfold Con
  k_fill
  intro dp un gd cn cs a ccd cl outer A₀ base h₀ L m s Q E B F X N T hk hd hu hret
  refine wpAny_call ?_
  k_dflt cell_enter
  walk_at "mine steps"
  all_goals (try (exfalso; first
    | (rename Float64.isNaN _ = true => hq; rw [hn] at hq; cases hq)
    | (rename Float64.isInf _ = true => hq; rw [hf] at hq; cases hq)
    | (rename _ ≤ (toInt Float64.truncOf _).natAbs => hq; rw [hi, Int.natAbs_natCast] at hq; have := big_pow; omega)))
  · rename (toInt Float64.truncOf _).fmod 6 = 0 => hq
    have e9 : i = 0 := by have := pick6 hi h6 hq; omega
    subst e9
    rename News h₀ L _ _ => N9
    rw [hi] at N9
    exact ret_one hret ⟨_, _, _, _, rfl, rfl⟩ (by assumption) N9 (by assumption)
  · rename (toInt Float64.truncOf _).fmod 6 = 1 => hq
    have e9 : i = 1 := by have := pick6 hi h6 hq; omega
    subst e9
    rename News h₀ L _ _ => N9
    rw [hi] at N9
    exact ret_one hret ⟨_, _, _, _, rfl, rfl⟩ (by assumption) N9 (by assumption)
  · rename (toInt Float64.truncOf _).fmod 6 = 2 => hq
    have e9 : i = 2 := by have := pick6 hi h6 hq; omega
    subst e9
    rename News h₀ L _ _ => N9
    rw [hi] at N9
    exact ret_one hret ⟨_, _, _, _, rfl, rfl⟩ (by assumption) N9 (by assumption)
  · rename (toInt Float64.truncOf _).fmod 6 = 3 => hq
    have e9 : i = 3 := by have := pick6 hi h6 hq; omega
    subst e9
    rename News h₀ L _ _ => N9
    rw [hi] at N9
    exact ret_one hret ⟨_, _, _, _, rfl, rfl⟩ (by assumption) N9 (by assumption)
  · rename (toInt Float64.truncOf _).fmod 6 = 4 => hq
    have e9 : i = 4 := by have := pick6 hi h6 hq; omega
    subst e9
    rename News h₀ L _ _ => N9
    rw [hi] at N9
    exact ret_one hret ⟨_, _, _, _, rfl, rfl⟩ (by assumption) N9 (by assumption)
  · rename (toInt Float64.truncOf _).fmod 6 = 5 => hq
    have e9 : i = 5 := by have := pick6 hi h6 hq; omega
    subst e9
    rename News h₀ L _ _ => N9
    rw [hi] at N9
    exact ret_one hret ⟨_, _, _, _, rfl, rfl⟩ (by assumption) N9 (by assumption)
  · exfalso
    rename (toInt Float64.truncOf _).fmod 6 ≠ 5 => q5
    rename (toInt Float64.truncOf _).fmod 6 ≠ 4 => q4
    rename (toInt Float64.truncOf _).fmod 6 ≠ 3 => q3
    rename (toInt Float64.truncOf _).fmod 6 ≠ 2 => q2
    rename (toInt Float64.truncOf _).fmod 6 ≠ 1 => q1
    rename (toInt Float64.truncOf _).fmod 6 ≠ 0 => q0
    rw [hi, Int.fmod_eq_emod_of_nonneg _ (by decide)] at q0 q1 q2 q3 q4 q5
    omega
theorem backG {w mean mg mb news} {h s' v : UInt64} {t1 t2 t3 : Tok} (hs : (Float64.cmp s' 0 == some .eq) = true) :
    Con w mean mg mb 28 1 8 [.float h t1, .float s' t2, .float v t3] news (fun v' tl => ∃ D u1 u2 u3, v' = .ref D ∧ tl = [(D, tupF v v v u1 u2 u3)]) := by
  unfold Con
  k_fill
  intro dp un gd cn cs a ccd cl outer A₀ base h₀ L m s Q E B F X N T hk hd hu hret
  refine wpAny_call ?_
  k_dflt cell_enter
  walk_at "mine steps"
  rename News h₀ L _ _ => N9
  exact ret_one hret ⟨_, _, _, _, rfl, rfl⟩ (by assumption) N9 (by assumption)
end

section
open PySem PySem.W PyProof.Rows PySem.Flt
set_option Elab.async false
set_option maxRecDepth 100000
set_option maxHeartbeats 8000000
set_option pp.deepTerms false
def fr (n u : Nat) : UInt64 := Float64.ofFrac false n u
section
variable {prog : Program} {w : World} {A : Around} {E : Value → Shared → Prop} {s : Shared} {Q : Value → Shared → Prop} {t u : Tok}
theorem divII {a b : Nat} (hb : 0 < b) (hf : ¬ Float64.isInf (fr a b) = true)
    (h : Q (.float (fr a b) s.toks) { s with toks := s.toks + 1 }) : wpAny (model prog w) A (binaryOp .Div (.int (a : Int) t) (.int (b : Int) u)) Q E s := by
  have e : Float64.ofFrac (decide ((a : Int) < 0) != decide ((b : Int) < 0)) (a : Int).natAbs (b : Int).natAbs = fr a b := by
    unfold fr
    rw [Int.natAbs_natCast, Int.natAbs_natCast, decide_eq_false (by omega), decide_eq_false (by omega)]
    rfl
  exact AutoIntOps.truediv_2 (by simpa using (show (b : Int) ≠ 0 by omega)) (by rw [e]; exact hf) (by rw [e]; exact h)
theorem item_led {value slice : PySem.Expr} {h₀ : Heap} {L l : Addr} {items : Array Value} {n : Nat} {news : List (Addr × Obj)} {k : Int} {v : Value} (N : News h₀ L s.heap news) (hm : (l, listOf items n) ∈ news)
    (h0 : 0 ≤ k) (hfit : k < 2 ^ 63) (hx : items[k.toNat]? = some v) (h : Q v s)
    (hs : subscripted slice false (.ref l) (.int k u) = operate [.ref l, .int k u] (getItem (.ref l) (.int k u)) := by with_unfolding_all rfl) (hg : ∀ r, letTemporaryGo value (.ref l) r = pure () := by intro _; with_unfolding_all rfl) :
    wpAny (model prog w) A (subscriptTail value slice (.ref l) (.int k u)) Q E s := item_list ⟨_, (N _ hm).1, rfl, n, rfl⟩ h0 hfit hx h hs hg
theorem item3_0 {value slice : PySem.Expr} {h₀ : Heap} {L l : Addr} {a b c : Value} {n : Nat} {news : List (Addr × Obj)} (N : News h₀ L s.heap news) (hm : (l, listOf #[a, b, c] n) ∈ news) (h : Q a s)
    (hs : subscripted slice false (.ref l) (.int 0 u) = operate [.ref l, .int 0 u] (getItem (.ref l) (.int 0 u)) := by with_unfolding_all rfl) (hg : ∀ r, letTemporaryGo value (.ref l) r = pure () := by intro _; with_unfolding_all rfl) :
    wpAny (model prog w) A (subscriptTail value slice (.ref l) (.int 0 u)) Q E s := item_led N hm (by decide) (by decide) rfl h hs hg
theorem item3_1 {value slice : PySem.Expr} {h₀ : Heap} {L l : Addr} {a b c : Value} {n : Nat} {news : List (Addr × Obj)} (N : News h₀ L s.heap news) (hm : (l, listOf #[a, b, c] n) ∈ news) (h : Q b s)
    (hs : subscripted slice false (.ref l) (.int 1 u) = operate [.ref l, .int 1 u] (getItem (.ref l) (.int 1 u)) := by with_unfolding_all rfl) (hg : ∀ r, letTemporaryGo value (.ref l) r = pure () := by intro _; with_unfolding_all rfl) :
    wpAny (model prog w) A (subscriptTail value slice (.ref l) (.int 1 u)) Q E s := item_led N hm (by decide) (by decide) rfl h hs hg
theorem item3_2 {value slice : PySem.Expr} {h₀ : Heap} {L l : Addr} {a b c : Value} {n : Nat} {news : List (Addr × Obj)} (N : News h₀ L s.heap news) (hm : (l, listOf #[a, b, c] n) ∈ news) (h : Q c s)
    (hs : subscripted slice false (.ref l) (.int 2 u) = operate [.ref l, .int 2 u] (getItem (.ref l) (.int 2 u)) := by with_unfolding_all rfl) (hg : ∀ r, letTemporaryGo value (.ref l) r = pure () := by intro _; with_unfolding_all rfl) :
    wpAny (model prog w) A (subscriptTail value slice (.ref l) (.int 2 u)) Q E s := item_led N hm (by decide) (by decide) rfl h hs hg
theorem maxL3 {h₀ : Heap} {L l : Addr} {m : Str → Option Value} {r g b top : Nat} {tr tg tb : Tok} {n : Nat} {news : List (Addr × Obj)} (hh : A.handled = none) (F : Fr h₀ L s.heap m) (N : News h₀ L s.heap news) (hm : (l, listOf #[.int (r : Int) tr, .int (g : Int) tg, .int (b : Int) tb] n) ∈ news)
    (ht : top = max (max r g) b) (h : ∀ h' t tk, Fr h₀ L h' m → News h₀ L h' news → Q (.int (top : Int) t) { s with heap := h', toks := tk }) : wpAny (model prog w) A (call (.builtin "max") [.ref l]) Q E s := by
  refine kso_max (vs := [.int (r : Int) tr, .int (g : Int) tg, .int (b : Int) tb]) (ns := [(r : Int), g, b]) F N ⟨_, (N _ hm).1, rfl, n, rfl⟩ (.cons _ _ (.cons _ _ (.cons _ _ .nil))) (Nat.zero_lt_succ _) hh fun h' M t tk F' N' h1 h2 => ?_
  have a1 := h2 r (by simp)
  have a2 := h2 g (by simp)
  have a3 := h2 b (by simp)
  have e : M = (top : Int) := by
    simp only [List.mem_cons, List.not_mem_nil, or_false] at h1
    omega
  rw [e]; exact h h' t tk F' N'
theorem minL3 {h₀ : Heap} {L l : Addr} {m : Str → Option Value} {r g b mn : Nat} {tr tg tb : Tok} {n : Nat} {news : List (Addr × Obj)} (hh : A.handled = none) (F : Fr h₀ L s.heap m) (N : News h₀ L s.heap news) (hm : (l, listOf #[.int (r : Int) tr, .int (g : Int) tg, .int (b : Int) tb] n) ∈ news)
    (ht : mn = min (min r g) b) (h : ∀ h' t tk, Fr h₀ L h' m → News h₀ L h' news → Q (.int (mn : Int) t) { s with heap := h', toks := tk }) : wpAny (model prog w) A (call (.builtin "min") [.ref l]) Q E s := by
  refine kso_min (vs := [.int (r : Int) tr, .int (g : Int) tg, .int (b : Int) tb]) (ns := [(r : Int), g, b]) F N ⟨_, (N _ hm).1, rfl, n, rfl⟩ (.cons _ _ (.cons _ _ (.cons _ _ .nil))) (Nat.zero_lt_succ _) hh fun h' M t tk F' N' h1 h2 => ?_
  have a1 := h2 r (by simp)
  have a2 := h2 g (by simp)
  have a3 := h2 b (by simp)
  have e : M = (mn : Int) := by
    simp only [List.mem_cons, List.not_mem_nil, or_false] at h1
    omega
  rw [e]; exact h h' t tk F' N'
theorem subN {a b c : Nat} (hc : a = b + c) (h : Q (.int (c : Int) s.toks) { s with toks := s.toks + 1 }) : wpAny (model prog w) A (binaryOp .Sub (.int (a : Int) t) (.int (b : Int) u)) Q E s :=
  sub_int (by rw [show (a : Int) - (b : Int) = (c : Int) from by omega]; exact h)
theorem mulFN {x : UInt64} {y : Int} {n : Nat} (hy : y = (n : Int)) (hn : n ≤ 2 ^ 40) (h : Q (.float (Float64.mul x (Float64.ofInt (n : Int))) s.toks) { s with toks := s.toks + 1 }) : wpAny (model prog w) A (binaryOp .Mult (.float x t) (.int y u)) Q E s := by
  subst hy
  exact mul_fi_fits (by rw [Int.natAbs_natCast]; exact Nat.lt_of_le_of_lt hn (by decide +kernel)) h
theorem pow30 (h : Q (.int 1073741824 s.toks) { s with toks := s.toks + 1 }) : wpAny (model prog w) A (binaryOp .Pow (.int 2 t) (.int 30 u)) Q E s :=
  pow_int_small (by decide) (by decide) (by decide) h
theorem intF {x : UInt64} {n : Int} (hA : A.handled = none) (hf : Float64.isFinite x = true) (hi : toInt Float64.truncOf x = n) (h : Q (.int n s.toks) { s with toks := s.toks + 1 }) : wpAny (model prog w) A (call (.type "int") [.float x t]) Q E s := by
  refine call_int_float3 hA (fun h0 => ?_) (fun h0 => ?_) fun _ => by rw [hi]; exact h
  · exfalso; unfold Float64.isFinite at hf; unfold Float64.isNaN at h0; revert hf h0; cases Float64.decode x <;> simp
  · exfalso; unfold Float64.isFinite at hf; unfold Float64.isInf at h0; revert hf h0; cases Float64.decode x <;> simp
theorem fdivEx {p : Nat} (h : Q (.int (p : Int) s.toks) { s with toks := s.toks + 1 }) : wpAny (model prog w) A (binaryOp .FloorDiv (.int ((p * 1073741824 : Nat) : Int) t) (.int 1073741824 u)) Q E s :=
  fdivN (b := 1073741824) rfl (by decide) (by decide) (by rw [Nat.mul_div_cancel _ (by decide)]; exact h)
theorem fmodEx {p : Nat} (h : Q (.int 0 s.toks) { s with toks := s.toks + 1 }) : wpAny (model prog w) A (binaryOp .Mod (.int ((p * 1073741824 : Nat) : Int) t) (.int 1073741824 u)) Q E s :=
  fmodN (b := 1073741824) rfl (by decide) (by decide) (by rw [Nat.mul_mod_left]; exact h)
end
/-- the float that the law rounds to find the hue's place -/
def nearF (hue : UInt64) (n : Nat) : UInt64 := Float64.add (Float64.mul (Float64.mul (Float64.mul hue (Float64.ofInt ((6 : Nat) : Int))) (Float64.ofInt (n : Int))) (Float64.ofInt ((1073741824 : Nat) : Int))) 0x3fe0000000000000
/-- the float that the law rounds to find a component again -/
def partF (p : UInt64) (u : Nat) : UInt64 := Float64.add (Float64.mul (Float64.mul p (Float64.ofInt (u : Int))) (Float64.ofInt ((1073741824 : Nat) : Int))) 0x3fe0000000000000
def awayE (place n k : Int) : Int := (place - 2 * n * k).fmod (6 * n)
def sideE (a n : Int) : Int := if 6 * n - a < a then 6 * n - a else a
def overE (a n : Int) : Int := if 0 > sideE a n - n then 0 else sideE a n - n
def cornE (place n k : Int) : Int := if n < overE (awayE place n k) n then n else overE (awayE place n k) n
/-- what the law asks of one colour that is no grey -/
structure Col (r g b u top mn n place i : Nat) : Prop where
  u0 : 0 < u
  u40 : u ≤ 2 ^ 40
  n40 : n ≤ 2 ^ 40
  top0 : 0 < top
  htop : top = max (max r g) b
  hmn : mn = min (min r g) b
  hn : top = mn + n
  n0 : 0 < n
  f1 : ¬ Float64.isInf (fr r u) = true
  f2 : ¬ Float64.isInf (fr g u) = true
  f3 : ¬ Float64.isInf (fr b u) = true
  f4 : ¬ Float64.isInf (fr top u) = true
  f5 : ¬ Float64.isInf (fr n top) = true
  hE : (Float64.cmp (minF (fr r u) (fr g u) (fr b u)) (maxF (fr r u) (fr g u) (fr b u)) == some .eq) = false
  hM : ¬ Float64.isZero (maxF (fr r u) (fr g u) (fr b u)) = true
  hR : ¬ Float64.isZero (Float64.sub (maxF (fr r u) (fr g u) (fr b u)) (minF (fr r u) (fr g u) (fr b u))) = true
  c1 : (Float64.cmp (maxF (fr r u) (fr g u) (fr b u)) (fr top u) != some .eq) = false
  c2 : (Float64.cmp (satF (fr r u) (fr g u) (fr b u)) (fr n top) != some .eq) = false
  c3 : (Float64.cmp 0 (hueF (fr r u) (fr g u) (fr b u)) == some .lt || Float64.cmp 0 (hueF (fr r u) (fr g u) (fr b u)) == some .eq) = true
  c4 : (Float64.cmp (hueF (fr r u) (fr g u) (fr b u)) 0x3ff0000000000000 == some .lt) = true
  d1 : Float64.isFinite (nearF (hueF (fr r u) (fr g u) (fr b u)) n) = true
  d2 : toInt Float64.truncOf (nearF (hueF (fr r u) (fr g u) (fr b u)) n) = ((place * 1073741824 : Nat) : Int)
  e0 : (r : Int) = top - cornE place n 0
  e1 : (g : Int) = top - cornE place n 1
  e2 : (b : Int) = top - cornE place n 2
  i6 : i < 6
  g1 : Float64.isNaN (Float64.mul (hueF (fr r u) (fr g u) (fr b u)) 0x4018000000000000) = false
  g2 : Float64.isInf (Float64.mul (hueF (fr r u) (fr g u) (fr b u)) 0x4018000000000000) = false
  g3 : toInt Float64.truncOf (Float64.mul (hueF (fr r u) (fr g u) (fr b u)) 0x4018000000000000) = (i : Int)
  g4 : (Float64.cmp (satF (fr r u) (fr g u) (fr b u)) 0 == some .eq) = false
  k1 : Float64.isFinite (partF (backF (hueF (fr r u) (fr g u) (fr b u)) (satF (fr r u) (fr g u) (fr b u)) (maxF (fr r u) (fr g u) (fr b u)) i).1 u) = true
  k2 : Float64.isFinite (partF (backF (hueF (fr r u) (fr g u) (fr b u)) (satF (fr r u) (fr g u) (fr b u)) (maxF (fr r u) (fr g u) (fr b u)) i).2.1 u) = true
  k3 : Float64.isFinite (partF (backF (hueF (fr r u) (fr g u) (fr b u)) (satF (fr r u) (fr g u) (fr b u)) (maxF (fr r u) (fr g u) (fr b u)) i).2.2 u) = true
  l1 : toInt Float64.truncOf (partF (backF (hueF (fr r u) (fr g u) (fr b u)) (satF (fr r u) (fr g u) (fr b u)) (maxF (fr r u) (fr g u) (fr b u)) i).1 u) = ((r * 1073741824 : Nat) : Int)
  l2 : toInt Float64.truncOf (partF (backF (hueF (fr r u) (fr g u) (fr b u)) (satF (fr r u) (fr g u) (fr b u)) (maxF (fr r u) (fr g u) (fr b u)) i).2.1 u) = ((g * 1073741824 : Nat) : Int)
  l3 : toInt Float64.truncOf (partF (backF (hueF (fr r u) (fr g u) (fr b u)) (satF (fr r u) (fr g u) (fr b u)) (maxF (fr r u) (fr g u) (fr b u)) i).2.2 u) = ((b * 1073741824 : Nat) : Int)
end

section
open PySem PySem.W PyProof.Rows PySem.Spec PySem.Calls
set_option Elab.async false
set_option maxRecDepth 100000
section
variable {prog : Program} {w : World} {A : Around} {E : Value → Shared → Prop} {s : Shared} {h₀ : Heap} {L : Addr} {m : Str → Option Value} {env : Env}
open LCg
/-- a comprehension whose element keeps the ledger: item by item -/
theorem comp_rest {elt : PySem.Expr} {x : Str} {scope : Scope} {cl : List (Str × Addr)} {S : List (Addr × Obj) → Prop} {P : Nat → Value → Prop} {Fin : List Value → List (Addr × Obj) → Prop} {news : List (Addr × Obj)} {n : Nat} (R : Nat → Value → Prop) (hS : S news)
    (hev : ∀ i v I oI C oC D m₂ h tk (E' : Value → Shared → Prop) ys (Q : Value → Shared → Prop), i < n → P i v → NsObj oC m₂ → m₂ x = some v → Fr h₀ L h m → News h₀ L h ((I, oI) :: (C, oC) :: (D, lst ys) :: news) →
      (∀ y h' tk', R i y → Fr h₀ L h' m → News h₀ L h' ((I, oI) :: (C, oC) :: (D, lst ys) :: news) → Q y { s with heap := h', toks := tk' }) →
      wpAny (model prog w) A (eval elt (compEnvC scope cl C env)) Q E' { s with heap := h, toks := tk })
    (hfin : ∀ ys : List Value, ys.length = n → (∀ j y, ys[j]? = some y → R j y) → Fin ys news) : CompRest prog w A h₀ L m env elt x scope cl s S P Fin n 0 [] news := by
  have go : ∀ k i (ys : List Value), i + k = n → ys.length = i → (∀ j y, ys[j]? = some y → R j y) → CompRest prog w A h₀ L m env elt x scope cl s S P Fin k i ys news := by
    intro k
    induction k with
    | zero =>
      intro i ys hik hl hR
      exact CompRest.zero (hfin ys (by omega) hR)
    | succ k ih =>
      intro i ys hik hl hR
      refine CompRest.succ fun v I oI C oC D m₂ h tk E' hP hC hx F N off ne => ?_
      refine hev i v I oI C oC D m₂ h tk E' ys _ (by omega) hP hC hx F N fun y h' tk' hy F' N' => ?_
      refine CompEnd.intro F' N' news (fun p hp => hp) off hS ?_
      refine ih (i + 1) (ys ++ [y]) (by omega) (by rw [List.length_append, List.length_singleton, hl]) fun j z hz => ?_
      rcases Nat.lt_trichotomy j ys.length with hj | hj | hj
      · rw [List.getElem?_append_left hj] at hz
        exact hR j z hz
      · rw [hj, List.getElem?_append_right (Nat.le_refl _), Nat.sub_self] at hz
        rw [hj, hl]
        have e : y = z := Option.some.inj hz
        rw [← e]; exact hy
      · rw [List.getElem?_eq_none (by rw [List.length_append, List.length_singleton]; omega)] at hz
        cases hz
  exact go n 0 [] (Nat.zero_add n) rfl fun j y h => by simp at h

abbrev tupO (its : Array Value) (n : Nat) : Obj := { cls := .type "tuple", data := .seq its n }
theorem tup_st {ax I : Addr} {its : Array Value} {n : Nat} : ∀ i (h h' : Heap) (o : Obj) (nw : List (Addr × Obj)), (h.IsTupleIter I ax i ∧ h.IsTuple ax its) → h.get? I = some o → h'.get? I = some o → (∀ b o, h₀.get? b = some o → h'.get? b = some o) → News h₀ L h' nw → (ax, tupO its n) ∈ nw → (h'.IsTupleIter I ax i ∧ h'.IsTuple ax its) :=
  fun i h h' o nw st e e' _ N S => ⟨by obtain ⟨o', q, r⟩ := st.1; rw [e] at q; cases q; exact ⟨o, e', r⟩, ⟨_, (N _ S).1, rfl, n, rfl⟩⟩
def TupSrc (prog : Program) (w : World) (A : Around) (h₀ : Heap) (L : Addr) (m : Str → Option Value) (env : Env) (elt : PySem.Expr) (x : Str) (scope : Scope) (cl : List (Str × Addr)) (Q : Value → Shared → Prop) (xv : Value) (s₁ : Shared) : Prop :=
  ∃ ax its n news, xv = .ref ax ∧ A.handled = none ∧ Fr h₀ L s₁.heap m ∧ News h₀ L s₁.heap news ∧ (ax, tupO its n) ∈ news ∧ its.size ≤ sizeLine ∧
      ∀ s₂ : Shared, (∃ h, s₂ = { s₁ with heap := h }) → CompRest prog w A h₀ L m env elt x scope cl s₂ (fun nw => (ax, tupO its n) ∈ nw) (fun i v => its[i]? = some v) (FinE h₀ L m s₂ Q) its.size 0 [] news
theorem TupSrc.intro {elt : PySem.Expr} {x : Str} {scope : Scope} {cl : List (Str × Addr)} {Q : Value → Shared → Prop} {ax : Addr} {its : Array Value} {n : Nat} {news : List (Addr × Obj)} {s₁ : Shared} (hh : A.handled = none) (F : Fr h₀ L s₁.heap m) (N : News h₀ L s₁.heap news) (hm : (ax, tupO its n) ∈ news) (hsz : its.size ≤ sizeLine)
    (h : ∀ g, CompRest prog w A h₀ L m env elt x scope cl { s₁ with heap := g } (fun nw => (ax, tupO its n) ∈ nw) (fun i v => its[i]? = some v) (FinE h₀ L m { s₁ with heap := g } Q) its.size 0 [] news) :
    TupSrc prog w A h₀ L m env elt x scope cl Q (.ref ax) s₁ := ⟨ax, its, n, news, rfl, hh, F, N, hm, hsz, fun _ ⟨g, e⟩ => e ▸ h g⟩
/-- a comprehension over a tuple of the ledger's -/
theorem comp_tup {elt iter : PySem.Expr} {x : Str} {px : Pos} {scope : Scope} {cl : List (Str × Addr)} {pos : Pos} {Q : Value → Shared → Prop} (_F₀ : Fr h₀ L s.heap m)
    (hclos : closureFor scope env = pure cl) (hcell : ∀ y ∈ scope.names, y.2 ≠ .cell) (hkind : scope.kind = .function)
    (hnames : ∀ y ∈ scope.names, y.2 = .local → scope.names.lookup y.1 = some .local) (hx : scope.names.lookup x = some .local)
    (h : wpAny (model prog w) A (eval iter env) (TupSrc prog w A h₀ L m env elt x scope cl Q) E s)
    (hs : ∀ x, foldedSetIterable iter env x = pure x := by intro _; rfl) :
    wpAny (model prog w) A (eval (.ListComp elt [⟨.Name x px, iter, [], 0⟩] scope pos) env) Q E s := by
  rw [eval_ListComp]
  refine wpAny_comprehension_free (use := none) rfl hs hclos hkind hnames (wpAny_mono h (fun xv s₁ h₁ => ?_) fun _ _ e => e)
  obtain ⟨ax, its, n, news, rfl, hh, F, N, S, hsz, R⟩ := h₁
  have hl : s₁.heap.IsTuple ax its := ⟨_, (N _ S).1, rfl, n, rfl⟩
  have hlt : ax < s₁.heap.objs.size := by obtain ⟨_, e, _⟩ := hl; exact Heap.lt_size e
  refine wpAny_pyIter_tuple hl ?_
  have up : ∀ b o, s₁.heap.get? b = some o → (s₁.heap.push { cls := .type "tuple_iterator", data := .fields #[.ref ax, .int 0 0] }).get? b = some o := fun b o e => Heap.get?_push_of_some _ e
  refine block_U (Walks.tuple hh s₁.heap.objs.size ax (Nat.ne_of_lt hlt) its) hsz (fun i h st => by obtain ⟨o, e, _⟩ := st.1; exact ⟨o, e⟩) (tup_st (n := n)) hcell hkind hx ⟨⟨_, Heap.get?_push_size _ rfl, rfl, rfl⟩, hl.push _⟩ (fun b hb => ?_)
    (F.keeps up) (N.grown up) (Nat.ne_of_lt F.ns.lt) (next_is_new F) (fun p hp => Nat.ne_of_lt (Heap.lt_size (N p hp).1)) S (R _ ⟨_, rfl⟩) ?_
  · show b < (s₁.heap.push _).objs.size
    rw [Heap.size_push]
    rcases List.mem_cons.mp hb with rfl | hb
    · exact Nat.lt_succ_self _
    · rw [List.mem_singleton.mp hb]; exact Nat.lt_succ_of_lt hlt
  · intro D C h tk m' ys news' F' N' o1 hn hC₀ hD₀ hCL hDL hCD offC fin
    refine ⟨m', hn, fun h'' hs'' => fin D h'' tk (F'.change hs'' hCL hC₀) (fun p hp => ?_) o1⟩
    refine ⟨hs''.extBut _ _ ?_ (N' p hp).1, (N' p hp).2⟩
    rcases List.mem_cons.mp hp with rfl | hp
    · exact Ne.symm hCD
    · exact offC p hp
end
end

section
open PySem PySem.W PyProof.Rows PySem.Flt
set_option Elab.async false
set_option maxRecDepth 100000
set_option maxHeartbeats 8000000
set_option pp.deepTerms false
theorem offC7 : True := by
  w_top off
  k_with_none
  exact trivial
local macro_rules | `(tactic| walk_at "subscriptTail") => `(tactic| (k_here; (with_reducible show wpAny _ _ (subscriptTail _ _ (Value.ref _) (Value.int _ _)) _ _ _); first
  | (refine' item3_0 ?k1 ?k2 ?_; (case k1 => k_asm); (case k2 => k_mem))
  | (refine' item3_1 ?k1 ?k2 ?_; (case k1 => k_asm); (case k2 => k_mem))
  | (refine' item3_2 ?k1 ?k2 ?_; (case k1 => k_asm); (case k2 => k_mem))))
local macro_rules | `(tactic| walk_at "call builtin:max") => `(tactic| (k_here; k_dflt (refine' maxL3 rfl ?k1 ?k2 ?k3 ?k4 ?_; (case k1 => k_asm); (case k2 => k_asm); (case k3 => k_mem); (case k4 => assumption)); intro h' t' tk' F' N'; (try dsimp only); (try k_fold)))
local macro_rules | `(tactic| walk_at "call builtin:min") => `(tactic| (k_here; k_dflt (refine' minL3 rfl ?k1 ?k2 ?k3 ?k4 ?_; (case k1 => k_asm); (case k2 => k_asm); (case k3 => k_mem); (case k4 => assumption)); intro h' t' tk' F' N'; (try dsimp only); (try k_fold)))
theorem said7 : True := by
  k_with "mine steps" => (repeat' (first | (k_unfold; (try dsimp only)) | (k_end; kc_close) | ((fail_if_success (with_reducible show wpAny _ _ (exec (PySem.Stmt.For _ _ _ _ _) _) _ _ _)); (fail_if_success (with_reducible show wpAny _ _ (pyIter _) _ _ _)); (fail_if_success (with_reducible show wpAny _ _ (eval (PySem.Expr.ListComp _ _ _ _) _) _ _ _)); first | walk1 | (dsimp only; walk1) | (leave1; walk_say "STEP leave1"; (try dsimp only))) | fail "no step"))
  k_with "subscriptTail Name Constant ref int" => (walk_at "subscriptTail")
  k_with "binaryOp Div int int" => ((k_here; refine divII (by assumption) (by assumption) ?_; (try dsimp only)))
  k_with "binaryOp Sub int int" => ((k_here; refine subN (by assumption) ?_; (try dsimp only)))
  k_with "binaryOp Pow int int" => ((k_here; refine pow30 ?_; (try dsimp only)))
  k_with "binaryOp FloorDiv int int" => ((k_here; refine fdivEx ?_; (try dsimp only)))
  k_with "binaryOp Mod int int" => ((k_here; refine fmodEx ?_; (try dsimp only)))
  k_with "binaryOp Mult float int" => ((k_here; (first | refine mulFN (n := 6) rfl (by decide) ?_ | refine mulFN (n := 1073741824) rfl (by decide) ?_ | refine mulFN rfl (by assumption) ?_); (try dsimp only)))
  k_with "call type:int" => ((k_here; refine intF rfl (by assumption) (by assumption) ?_; (try dsimp only)))
  k_with "call ref" => (first | cell_ask (rgbC (by assumption) (by assumption) (by assumption)) | cell_ask (backC _ (by assumption) (by assumption) (by assumption) (by assumption) (by assumption)))
  exact trivial

theorem agreeC {w mean mg mb news} {lp : Addr} {r g b u top mn n place i : Nat} {tr tg tb tu : Tok} {nn : Nat} (C : Col r g b u top mn n place i) :
    Con0 w mean mg mb 103 2 100 [.ref lp, .int (u : Int) tu] ((lp, listOf #[.int (r : Int) tr, .int (g : Int) tg, .int (b : Int) tb] nn) :: news) (fun _ => .bool true) := by
  obtain ⟨u0, u40, n40, top0, htop, hmn, hn, n0, f1, f2, f3, f4, f5, hE, hM, hR, c1, c2, c3, c4, d1, d2, e0, e1, e2, i6, g1, g2, g3, g4, k1, k2, k3, l1, l2, l3⟩ := C
  have n0' : (n : Int) ≠ 0 := by omega
  obtain ⟨A0, hA0⟩ : ∃ A : Int, A = ((r * 1073741824 : Nat) : Int) := ⟨_, rfl⟩
  obtain ⟨A1, hA1⟩ : ∃ A : Int, A = ((g * 1073741824 : Nat) : Int) := ⟨_, rfl⟩
  obtain ⟨A2, hA2⟩ : ∃ A : Int, A = ((b * 1073741824 : Nat) : Int) := ⟨_, rfl⟩
  rw [← hA0] at l1
  rw [← hA1] at l2
  rw [← hA2] at l3
  unfold nearF at d1 d2
  unfold partF at k1 k2 k3 l1 l2 l3
  unfold Con0
  k_fill
  intro dp un gd cn cs a ccd cl outer A₀ base h₀ L m s Q E B F X N T hk hd hu hret
  refine wpAny_call ?_
  walk_at "mine enterC"
  walk_at "mine steps"
  all_goals (try (exfalso; omega))
  rename Fr _ _ _ _ => F1
  rename News _ _ _ _ => N1
  refine for_inv F1 (by rfl) (by rfl) ?_
  walk_at "mine steps"
  rename Fr _ _ _ _ => F2
  rename News _ _ _ _ => N2
  rename IsRange _ _ _ _ _ _ _ _ => R2
  refine' loop_range (n := 3) (fun _ : Unit => _) (fun _ => []) [Str.ofString "away"] (fun i c => True) () rfl R2 (small0 (n := 3) (by omega)) (size0 3) F2 N2 rfl (fun _ h => nomatch h) trivial ?k2 ?k3
  case k2 =>
    rintro ⟨⟩ j t u' h tk own hj hoff _ F3 N3
    rw [Int.zero_add] at F3
    have hj3 : j = 0 ∨ j = 1 ∨ j = 2 := by omega
    clear l1 l2 l3 k1 k2 k3 g1 g2 g3 g4 d1 d2 c1 c2 c3 c4 hE hM hR f1 f2 f3 f4 f5 R2 F2 N2
    rcases hj3 with rfl | rfl | rfl
    · rw [show ((0 : Nat) : Int) = 0 from rfl] at F3
      walk_at "mine steps"
      · exfalso
        rename (_ : Int) ≠ (top : Int) - _ => hq
        exact hq e0
      · rename Fr _ _ _ _ => F4
        rename News _ _ _ _ => N4
        refine' turn_end () F4 N4 ?a1 ?a2 hoff (fun _ h => nomatch h) ?a4 trivial
        case a1 => exact fun p hp => List.mem_append.mpr (.inl hp)
        case a2 => exact fun p hp => List.mem_append.mpr (.inr hp)
        case a4 =>
          intro z z1 z2 z3
          have z5 : z ≠ Str.ofString "away" := fun e => by subst e; revert z3; decide +kernel
          simp only [kstB, if_neg z1, if_neg z5, z3, Bool.false_eq_true, if_false]
    · rw [show ((1 : Nat) : Int) = 1 from rfl] at F3
      walk_at "mine steps"
      · exfalso
        rename (_ : Int) ≠ (top : Int) - _ => hq
        exact hq e1
      · rename Fr _ _ _ _ => F4
        rename News _ _ _ _ => N4
        refine' turn_end () F4 N4 ?a1 ?a2 hoff (fun _ h => nomatch h) ?a4 trivial
        case a1 => exact fun p hp => List.mem_append.mpr (.inl hp)
        case a2 => exact fun p hp => List.mem_append.mpr (.inr hp)
        case a4 =>
          intro z z1 z2 z3
          have z5 : z ≠ Str.ofString "away" := fun e => by subst e; revert z3; decide +kernel
          simp only [kstB, if_neg z1, if_neg z5, z3, Bool.false_eq_true, if_false]
    · rw [show ((2 : Nat) : Int) = 2 from rfl] at F3
      walk_at "mine steps"
      · exfalso
        rename (_ : Int) ≠ (top : Int) - _ => hq
        exact hq e2
      · rename Fr _ _ _ _ => F4
        rename News _ _ _ _ => N4
        refine' turn_end () F4 N4 ?a1 ?a2 hoff (fun _ h => nomatch h) ?a4 trivial
        case a1 => exact fun p hp => List.mem_append.mpr (.inl hp)
        case a2 => exact fun p hp => List.mem_append.mpr (.inr hp)
        case a4 =>
          intro z z1 z2 z3
          have z5 : z ≠ Str.ofString "away" := fun e => by subst e; revert z3; decide +kernel
          simp only [kstB, if_neg z1, if_neg z5, z3, Bool.false_eq_true, if_false]
  case k3 =>
    rintro ⟨⟩ u' h tk _ F3 N3
    walk_at "mine steps"
    rename Fr _ _ _ _ => F4
    rename News _ _ _ _ => N4
    refine comp_tup F4 (by with_unfolding_all rfl) (by decide) (by rfl) (by decide) (by rfl) ?_
    walk_at "mine steps"
    refine TupSrc.intro rfl F4 N4 List.mem_cons_self (by rw [sizeLine_eq]; exact Nat.le_of_ble_eq_true rfl) fun g9 => ?_
    refine comp_rest (n := 3) (fun i y => (i = 0 → ∃ t, y = .int A0 t) ∧ (i = 1 → ∃ t, y = .int A1 t) ∧ (i = 2 → ∃ t, y = .int A2 t)) List.mem_cons_self ?c1 ?c2
    case c1 =>
      intro j v I oI C oC D m₂ h tk E' ys Q' hj hP hC hx F5 N5 hret'
      have hj3 : j = 0 ∨ j = 1 ∨ j = 2 := by omega
      rcases hj3 with rfl | rfl | rfl
      all_goals (
        have e9 : v = Value.float _ _ := (Option.some.inj hP).symm
        subst e9
        walk_at "mine steps"
        exact hret' _ _ _ (by simp) F5 N5)
    case c2 =>
      intro ys hys hY
      obtain ⟨y0, y1, y2, rfl⟩ : ∃ a b c, ys = [a, b, c] := by
        match ys, hys with
        | [a, b, c], _ => exact ⟨a, b, c, rfl⟩
      obtain ⟨ta, rfl⟩ := (hY 0 y0 rfl).1 rfl
      obtain ⟨tb', rfl⟩ := (hY 1 y1 rfl).2.1 rfl
      obtain ⟨tc, rfl⟩ := (hY 2 y2 rfl).2.2 rfl
      clear hY hys
      unfold LCg.FinE
      intro D6 h6 tk6 F6 N6 o6
      dsimp only
      refine LCg.ListComp_U F6 (by with_unfolding_all rfl) (by decide) (by rfl) (by decide) (by rfl) ?_
      walk1
      refine LCg.CompSrc.ledger rfl F6 N6 (by k_mem) (by rw [sizeLine_eq]; exact Nat.le_of_ble_eq_true rfl) fun g8 => ?_
      refine comp_rest (n := 3) (fun i y => (i = 0 → ∃ t, y = .int A0 t) ∧ (i = 1 → ∃ t, y = .int A1 t) ∧ (i = 2 → ∃ t, y = .int A2 t)) (.inr ⟨_, by k_mem, rfl, _, rfl⟩) ?d1 ?d2
      case d1 =>
        intro j v I oI C oC D m₂ h tk E' ys Q' hj hP hC hx F5 N5 hret'
        have hj3 : j = 0 ∨ j = 1 ∨ j = 2 := by omega
        clear l1 l2 l3 k1 k2 k3 g1 g2 g3 g4 d1 d2 c1 c2 c3 c4 hE hM hR f1 f2 f3 f4 f5 e0 e1 e2
        rcases hj3 with rfl | rfl | rfl
        all_goals (
          have e9 : v = Value.int _ _ := (Option.some.inj hP).symm
          subst e9
          walk_at "mine steps"
          refine hret' _ _ _ ?_ F5 N5
          simp
          omega)
      case d2 =>
        intro ys hys hY
        obtain ⟨y0, y1, y2, rfl⟩ : ∃ a b c, ys = [a, b, c] := by
          match ys, hys with
          | [a, b, c], _ => exact ⟨a, b, c, rfl⟩
        obtain ⟨ta', rfl⟩ := (hY 0 y0 rfl).1 rfl
        obtain ⟨tb'', rfl⟩ := (hY 1 y1 rfl).2.1 rfl
        obtain ⟨tc', rfl⟩ := (hY 2 y2 rfl).2.2 rfl
        clear hY hys
        unfold LCg.FinE
        intro D7 h7 tk7 F7 N7 o7
        dsimp only
        refine ke_eq_ints (ns := [A0, A1, A2]) (ms := [A0, A1, A2]) ⟨_, (N7 _ (List.mem_cons_of_mem _ List.mem_cons_self)).1, rfl, _, rfl⟩ ⟨_, (N7 _ List.mem_cons_self).1, rfl, _, rfl⟩ (.cons _ _ (.cons _ _ (.cons _ _ .nil))) (.cons _ _ (.cons _ _ (.cons _ _ .nil))) (by ktr_units) ?_
        rw [decide_eq_true rfl]
        walk_at "mine steps"
        rename News h₀ L _ _ => N8
        exact hret 0 _ _ (by assumption) (fun p hp => N8 p (.tail _ (.tail _ (.tail _ (.tail _ (.tail _ hp))))))
theorem offC8 : True := by
  w_top off
  k_with_none
  exact trivial
theorem said8 : True := by
  k_with "mine steps" => (repeat' (first | (k_unfold; (try dsimp only)) | (k_end; kc_close) | ((fail_if_success (with_reducible show wpAny _ _ (exec (PySem.Stmt.For _ _ _ _ _) _) _ _ _)); (fail_if_success (with_reducible show wpAny _ _ (pyIter _) _ _ _)); (fail_if_success (with_reducible show wpAny _ _ (eval (PySem.Expr.ListComp _ _ _ _) _) _ _ _)); first | walk1 | (dsimp only; walk1) | (leave1; walk_say "STEP leave1"; (try dsimp only))) | fail "no step"))
  k_with "subscriptTail Name Constant ref int" => (walk_at "subscriptTail")
  k_with "binaryOp Div int int" => ((k_here; refine divII (by assumption) (by assumption) ?_; (try dsimp only)))
  k_with "binaryOp Sub int int" => ((k_here; refine subN (by assumption) ?_; (try dsimp only)))
  k_with "binaryOp Pow int int" => ((k_here; refine pow30 ?_; (try dsimp only)))
  k_with "binaryOp FloorDiv int int" => ((k_here; refine fdivEx ?_; (try dsimp only)))
  k_with "binaryOp Mod int int" => ((k_here; refine fmodEx ?_; (try dsimp only)))
  k_with "binaryOp Mult float int" => ((k_here; (first | refine mulFN (n := 6) rfl (by decide) ?_ | refine mulFN (n := 1073741824) rfl (by decide) ?_ | refine mulFN rfl (by assumption) ?_); (try dsimp only)))
  k_with "call type:int" => ((k_here; refine intF rfl (by assumption) (by assumption) ?_; (try dsimp only)))
  k_with "call ref" => (first | cell_ask (rgbG (by assumption)) | cell_ask (backG (by decide +kernel)))
  exact trivial

/-- what the law asks of a grey -/
structure Gry (r u : Nat) : Prop where
  u0 : 0 < u
  u40 : u ≤ 2 ^ 40
  f1 : ¬ Float64.isInf (fr r u) = true
  hE : (Float64.cmp (minF (fr r u) (fr r u) (fr r u)) (maxF (fr r u) (fr r u) (fr r u)) == some .eq) = true
  c1 : (Float64.cmp (maxF (fr r u) (fr r u) (fr r u)) (fr r u) != some .eq) = false
  k1 : Float64.isFinite (partF (maxF (fr r u) (fr r u) (fr r u)) u) = true
  l1 : toInt Float64.truncOf (partF (maxF (fr r u) (fr r u) (fr r u)) u) = ((r * 1073741824 : Nat) : Int)
theorem agreeG {w mean mg mb news} {lp : Addr} {r u : Nat} {tr tg tb tu : Tok} {nn : Nat} (C : Gry r u) :
    Con0 w mean mg mb 103 2 100 [.ref lp, .int (u : Int) tu] ((lp, listOf #[.int (r : Int) tr, .int (r : Int) tg, .int (r : Int) tb] nn) :: news) (fun _ => .bool true) := by
  obtain ⟨u0, u40, f1, hE, c1, k1, l1⟩ := C
  have htop : r = max (max r r) r := by omega
  have hmn : r = min (min r r) r := by omega
  have hn : r = r + 0 := rfl
  have z00 : (Float64.cmp 0 0 != some .eq) = false := by decide +kernel
  obtain ⟨A0, hA0⟩ : ∃ A : Int, A = ((r * 1073741824 : Nat) : Int) := ⟨_, rfl⟩
  rw [← hA0] at l1
  unfold partF at k1 l1
  unfold Con0
  k_fill
  intro dp un gd cn cs a ccd cl outer A₀ base h₀ L m s Q E B F X N T hk hd hu hret
  refine wpAny_call ?_
  walk_at "mine enterC"
  walk_at "mine steps"
  all_goals (try (exfalso; rename (Float64.cmp 0 0 != some .eq) = true => hq; rw [z00] at hq; cases hq))
  rename Fr _ _ _ _ => F4
  rename News _ _ _ _ => N4
  refine comp_tup F4 (by with_unfolding_all rfl) (by decide) (by rfl) (by decide) (by rfl) ?_
  walk_at "mine steps"
  refine TupSrc.intro rfl F4 N4 List.mem_cons_self (by rw [sizeLine_eq]; exact Nat.le_of_ble_eq_true rfl) fun g9 => ?_
  refine comp_rest (n := 3) (fun i y => (i = 0 → ∃ t, y = .int A0 t) ∧ (i = 1 → ∃ t, y = .int A0 t) ∧ (i = 2 → ∃ t, y = .int A0 t)) List.mem_cons_self ?c1 ?c2
  case c1 =>
    intro j v I oI C oC D m₂ h tk E' ys Q' hj hP hC hx F5 N5 hret'
    have hj3 : j = 0 ∨ j = 1 ∨ j = 2 := by omega
    rcases hj3 with rfl | rfl | rfl
    all_goals (
      have e9 : v = Value.float _ _ := (Option.some.inj hP).symm
      subst e9
      walk_at "mine steps"
      exact hret' _ _ _ (by simp) F5 N5)
  case c2 =>
    intro ys hys hY
    obtain ⟨y0, y1, y2, rfl⟩ : ∃ a b c, ys = [a, b, c] := by
      match ys, hys with
      | [a, b, c], _ => exact ⟨a, b, c, rfl⟩
    obtain ⟨ta, rfl⟩ := (hY 0 y0 rfl).1 rfl
    obtain ⟨tb', rfl⟩ := (hY 1 y1 rfl).2.1 rfl
    obtain ⟨tc, rfl⟩ := (hY 2 y2 rfl).2.2 rfl
    clear hY hys
    unfold LCg.FinE
    intro D6 h6 tk6 F6 N6 o6
    dsimp only
    refine LCg.ListComp_U F6 (by with_unfolding_all rfl) (by decide) (by rfl) (by decide) (by rfl) ?_
    walk1
    refine LCg.CompSrc.ledger rfl F6 N6 (by k_mem) (by rw [sizeLine_eq]; exact Nat.le_of_ble_eq_true rfl) fun g8 => ?_
    refine comp_rest (n := 3) (fun i y => (i = 0 → ∃ t, y = .int A0 t) ∧ (i = 1 → ∃ t, y = .int A0 t) ∧ (i = 2 → ∃ t, y = .int A0 t)) (.inr ⟨_, by k_mem, rfl, _, rfl⟩) ?d1 ?d2
    case d1 =>
      intro j v I oI C oC D m₂ h tk E' ys Q' hj hP hC hx F5 N5 hret'
      have hj3 : j = 0 ∨ j = 1 ∨ j = 2 := by omega
      clear l1 k1 c1 hE f1
      rcases hj3 with rfl | rfl | rfl
      all_goals (
        have e9 : v = Value.int _ _ := (Option.some.inj hP).symm
        subst e9
        walk_at "mine steps"
        refine hret' _ _ _ ?_ F5 N5
        simp
        omega)
    case d2 =>
      intro ys hys hY
      obtain ⟨y0, y1, y2, rfl⟩ : ∃ a b c, ys = [a, b, c] := by
        match ys, hys with
        | [a, b, c], _ => exact ⟨a, b, c, rfl⟩
      obtain ⟨ta', rfl⟩ := (hY 0 y0 rfl).1 rfl
      obtain ⟨tb'', rfl⟩ := (hY 1 y1 rfl).2.1 rfl
      obtain ⟨tc', rfl⟩ := (hY 2 y2 rfl).2.2 rfl
      clear hY hys
      unfold LCg.FinE
      intro D7 h7 tk7 F7 N7 o7
      dsimp only
      refine ke_eq_ints (ns := [A0, A0, A0]) (ms := [A0, A0, A0]) ⟨_, (N7 _ (List.mem_cons_of_mem _ List.mem_cons_self)).1, rfl, _, rfl⟩ ⟨_, (N7 _ List.mem_cons_self).1, rfl, _, rfl⟩ (.cons _ _ (.cons _ _ (.cons _ _ .nil))) (.cons _ _ (.cons _ _ (.cons _ _ .nil))) (by ktr_units) ?_
      rw [decide_eq_true rfl]
      walk_at "mine steps"
      rename News h₀ L _ _ => N8
      exact hret 0 _ _ (by assumption) (fun p hp => N8 p (.tail _ (.tail _ (.tail _ (.tail _ (.tail _ hp))))))
end

section
open PySem PySem.W PyProof.Rows PySem.Flt
set_option Elab.async false
set_option maxRecDepth 100000
open PySem.Float64
/-- the float is finite -/
def Fnt (x : UInt64) : Prop := ∃ a m e, decode x = .fin a m e
theorem rep : ∀ (j n : Nat), n ≤ 2 ^ 53 → ∃ t, V t = n * 2 ^ j
  | 0, n, h => ⟨0 * 2 ^ 52 + n, V_at h (.inr rfl)⟩
  | j + 1, n, h => by
    by_cases h2 : 2 ^ 52 ≤ n
    · exact ⟨_, V_at (k := j + 1) h (.inl h2)⟩
    · obtain ⟨t, e⟩ := rep j (2 * n) (by lia)
      exact ⟨t, by rw [e, Nat.pow_succ, Nat.mul_comm 2 n, Nat.mul_assoc, Nat.mul_comm 2]⟩
theorem big1 : 2 * 2 ^ 1174 < (2 ^ 54 - 1) * 2 ^ 2045 := by decide +kernel
theorem right_fin {r : UInt64} {ng : Bool} {W D : Nat} (R : Right r ng W D) (hD : 0 < D) (hW : W ≤ D * 2 ^ 1174) :
    Fnt r ∧ ∃ t, val r = sgn ng (V t) ∧ ∀ t', dist W (D * V t) ≤ dist W (D * V t') := by
  obtain ⟨t, rfl, ht, hi, hn⟩ := R
  have hne : t ≠ infMag := by
    intro e
    have h1 := hi.mp e
    have h2 : D * (2 * 2 ^ 1174) < D * ((2 ^ 54 - 1) * 2 ^ 2045) := Nat.mul_lt_mul_of_pos_left big1 hD
    have h3 : D * (2 * 2 ^ 1174) = 2 * (D * 2 ^ 1174) := by rw [Nat.mul_left_comm]
    rw [h3] at h2
    generalize D * ((2 ^ 54 - 1) * 2 ^ 2045) = p at *
    generalize D * 2 ^ 1174 = q at *
    lia
  have hlt : t < infMag := Nat.lt_of_le_of_ne ht hne
  obtain ⟨m, e, hd, _⟩ := decode_pack ng hlt
  exact ⟨⟨_, _, _, hd⟩, t, val_pack ng hlt, fun t' => (hn hlt t').1⟩
theorem right_near {r : UInt64} {ng : Bool} {W D : Nat} (R : Right r ng W D) (hD : 0 < D) (k : Nat) (hk : k ≤ 100) (hW : W ≤ D * 2 ^ (1074 + k)) :
    Fnt r ∧ ∃ v : Nat, val r = sgn ng v ∧ dist W (D * v) ≤ D * 2 ^ (1021 + k) := by
  obtain ⟨hf, t, hv, hn⟩ := right_fin R hD (Nat.le_trans hW (Nat.mul_le_mul_left _ (Nat.pow_le_pow_right (by decide) (by lia))))
  refine ⟨hf, _, hv, ?_⟩
  have hj : D * 2 ^ (1074 + k) = D * 2 ^ (1021 + k) * 2 ^ 53 := by rw [Nat.mul_assoc, ← Nat.pow_add]; congr 2; lia
  rw [hj] at hW
  obtain ⟨t', ht'⟩ := rep (1021 + k) (W / (D * 2 ^ (1021 + k))) (Nat.div_le_of_le_mul hW)
  refine Nat.le_trans (hn t') ?_
  rw [ht']
  have hm : D * (W / (D * 2 ^ (1021 + k)) * 2 ^ (1021 + k)) = D * 2 ^ (1021 + k) * (W / (D * 2 ^ (1021 + k))) := by rw [Nat.mul_comm (W / _), Nat.mul_assoc]
  rw [hm]
  have hp : 0 < D * 2 ^ (1021 + k) := Nat.mul_pos hD (Nat.two_pow_pos _)
  generalize D * 2 ^ (1021 + k) = J at *
  have h1 := Nat.div_add_mod W J
  have h2 := Nat.mod_lt W hp
  unfold dist
  generalize J * (W / J) = p at *
  lia
theorem right_exact {r : UInt64} {ng : Bool} {W D : Nat} (R : Right r ng W D) (hD : 0 < D) (n j : Nat) (hn : n ≤ 2 ^ 53) (hj : n * 2 ^ j ≤ 2 ^ 1174) (hW : W = D * (n * 2 ^ j)) : Fnt r ∧ val r = sgn ng (n * 2 ^ j) := by
  obtain ⟨hf, t, hv, hq⟩ := right_fin R hD (by rw [hW]; exact Nat.mul_le_mul_left _ hj)
  refine ⟨hf, ?_⟩
  obtain ⟨t', ht'⟩ := rep j n hn
  have h0 := hq t'
  rw [ht', ← hW] at h0
  have h1 : D * V t = D * (n * 2 ^ j) := by unfold dist at h0; rw [← hW]; lia
  rw [hv, Nat.eq_of_mul_eq_mul_left hD h1]
/-- two right results of one fraction are one -/
theorem right_uniq {r r' : UInt64} {ng : Bool} {W D : Nat} (R : Right r ng W D) (R' : Right r' ng W D) (hD : 0 < D) (hW : W ≤ D * 2 ^ 1174) : r = r' := by
  obtain ⟨t, rfl, ht, hi, hn⟩ := R
  obtain ⟨t', rfl, ht', hi', hn'⟩ := R'
  have hno : ¬ D * ((2 ^ 54 - 1) * 2 ^ 2045) ≤ 2 * W := by
    intro h1
    have h2 : D * (2 * 2 ^ 1174) < D * ((2 ^ 54 - 1) * 2 ^ 2045) := Nat.mul_lt_mul_of_pos_left big1 hD
    have h3 : D * (2 * 2 ^ 1174) = 2 * (D * 2 ^ 1174) := by rw [Nat.mul_left_comm]
    rw [h3] at h2
    generalize D * ((2 ^ 54 - 1) * 2 ^ 2045) = p at *
    generalize D * 2 ^ 1174 = q at *
    lia
  have a1 : t < infMag := Nat.lt_of_le_of_ne ht fun e => hno (hi.mp e)
  have a2 : t' < infMag := Nat.lt_of_le_of_ne ht' fun e => hno (hi'.mp e)
  have key : ∀ t t' : Nat, (∀ s, dist W (D * V t) ≤ dist W (D * V s) ∧ (V s ≠ V t → dist W (D * V t) = dist W (D * V s) → t % 2 = 0)) → (∀ s, dist W (D * V t') ≤ dist W (D * V s) ∧ (V s ≠ V t' → dist W (D * V t') = dist W (D * V s) → t' % 2 = 0)) → ¬ t < t' := by
    intro t t' h h' hlt
    have v1 := V_lt hlt
    have e : dist W (D * V t) = dist W (D * V t') := Nat.le_antisymm (h t').1 (h' t).1
    have p1 := (h t').2 (by lia) e
    have p2 := (h' t).2 (by lia) e.symm
    have v2 := V_succ t
    have v3 : V (t + 1) < V t' := V_lt (by lia)
    have q := (h (t + 1)).1
    have m1 : D * V t < D * V (t + 1) := Nat.mul_lt_mul_of_pos_left v2 hD
    have m2 : D * V (t + 1) < D * V t' := Nat.mul_lt_mul_of_pos_left v3 hD
    unfold dist at q e
    generalize D * V t = A at *
    generalize D * V t' = B at *
    generalize D * V (t + 1) = C at *
    lia
  have e : t = t' := by
    rcases Nat.lt_trichotomy t t' with h | h | h
    · exact absurd h (key t t' (hn a1) (hn' a2))
    · exact h
    · exact absurd h (key t' t (hn' a2) (hn a1))
  rw [e]
end

section
open PySem PySem.W PyProof.Rows PySem.Flt
set_option Elab.async false
set_option maxRecDepth 100000
open PySem.Float64
def KK : Nat := 2 ^ 1074
theorem KK_pos : (0 : Rat) < (KK : Rat) := by
  have : 0 < KK := Nat.two_pow_pos _
  exact_mod_cast this
/-- the number that a finite float is -/
def rv (x : UInt64) : Rat := (val x : Rat) / (KK : Rat)
theorem rv_mul (x : UInt64) : rv x * (KK : Rat) = (val x : Rat) := by
  have := KK_pos
  unfold rv
  rw [Rat.div_mul_cancel (by grind)]
theorem rv_of {x : UInt64} {q : Rat} (h : (val x : Rat) = q * (KK : Rat)) : rv x = q := by
  have := KK_pos
  unfold rv
  rw [h, Rat.mul_div_cancel (by grind)]
theorem KKJ (k : Nat) : ((2 ^ (1021 + k) : Nat) : Rat) * 2 ^ 53 = (KK : Rat) * 2 ^ k := by
  have h : 2 ^ (1021 + k) * 2 ^ 53 = KK * 2 ^ k := by
    unfold KK
    rw [← Nat.pow_add, ← Nat.pow_add]
    congr 1
    omega
  exact_mod_cast h
theorem KKW (k : Nat) : ((2 ^ (1074 + k) : Nat) : Rat) = (KK : Rat) * 2 ^ k := by
  have h : 2 ^ (1074 + k) = KK * 2 ^ k := by
    unfold KK
    rw [← Nat.pow_add]
  exact_mod_cast h
theorem sgn_cast (ng : Bool) (W : Nat) : ((sgn ng W : Int) : Rat) = if ng then -(W : Rat) else (W : Rat) := by
  unfold sgn
  cases ng <;> simp [Rat.intCast_natCast]
theorem box {D K W v X q ε : Rat} (hDK : 0 < D * K) (hq : q * D * K = W) (e1 : X * K = v) (c1 : W ≤ D * v + D * (K * ε)) (c2 : D * v ≤ W + D * (K * ε)) : q - ε ≤ X ∧ X ≤ q + ε := by
  subst hq; subst e1
  constructor
  · refine Rat.not_lt.mp fun hc => ?_
    have := Rat.mul_pos hDK (show 0 < q - ε - X by grind)
    grind
  · refine Rat.not_lt.mp fun hc => ?_
    have := Rat.mul_pos hDK (show 0 < X - q - ε by grind)
    grind
theorem near_rat {r : UInt64} {ng : Bool} {W D : Nat} {q : Rat} (R : Right r ng W D) (hD : 0 < D) (hq : q * (D : Rat) * (KK : Rat) = ((sgn ng W : Int) : Rat)) (k : Nat) (hk : k ≤ 100) (h1 : -2 ^ k ≤ q) (h2 : q ≤ 2 ^ k) :
    Fnt r ∧ q - 2 ^ k / 2 ^ 53 ≤ rv r ∧ rv r ≤ q + 2 ^ k / 2 ^ 53 := by
  have hD' : (0 : Rat) < (D : Rat) := by exact_mod_cast hD
  have hK := KK_pos
  have hDK := Rat.mul_pos hD' hK
  have hW : W ≤ D * 2 ^ (1074 + k) := by
    have g1 : 0 ≤ (D : Rat) * (KK : Rat) * (2 ^ k - q) := Rat.mul_nonneg (by grind) (by grind)
    have g2 : 0 ≤ (D : Rat) * (KK : Rat) * (q + 2 ^ k) := Rat.mul_nonneg (by grind) (by grind)
    have g3 := KKW k
    rw [sgn_cast] at hq
    have : (W : Rat) ≤ (D : Rat) * ((2 ^ (1074 + k) : Nat) : Rat) := by
      rw [g3]
      cases ng
      · simp only [Bool.false_eq_true, if_false] at hq
        grind
      · simp only [if_true] at hq
        grind
    exact_mod_cast this
  obtain ⟨hf, v, hv, hd⟩ := right_near R hD k hk hW
  refine ⟨hf, ?_⟩
  have e1 := rv_mul r
  rw [hv, sgn_cast] at e1
  rw [sgn_cast] at hq
  have d1 : W ≤ D * v + D * 2 ^ (1021 + k) := by unfold dist at hd; omega
  have d2 : D * v ≤ W + D * 2 ^ (1021 + k) := by unfold dist at hd; omega
  have c1 : (W : Rat) ≤ (D : Rat) * (v : Rat) + (D : Rat) * ((2 ^ (1021 + k) : Nat) : Rat) := by exact_mod_cast d1
  have c2 : (D : Rat) * (v : Rat) ≤ (W : Rat) + (D : Rat) * ((2 ^ (1021 + k) : Nat) : Rat) := by exact_mod_cast d2
  have hJ : ((2 ^ (1021 + k) : Nat) : Rat) = (KK : Rat) * (2 ^ k / 2 ^ 53) := by
    have := KKJ k
    grind
  rw [hJ] at c1 c2
  generalize (2 : Rat) ^ k / 2 ^ 53 = ε at *
  cases ng
  · simp only [Bool.false_eq_true, if_false] at hq e1
    exact box hDK hq e1 c1 c2
  · simp only [if_true] at hq e1
    exact box hDK hq e1 (by clear hJ d1 d2 hd h1 h2 hW; grind) (by clear hJ d1 d2 hd h1 h2 hW; grind)
end

section
open PySem PySem.W PyProof.Rows PySem.Flt
set_option Elab.async false
set_option maxRecDepth 100000
open PySem.Float64
/-- `x` is finite and within `ε` of `q` -/
def Ap (x : UInt64) (q ε : Rat) : Prop := Fnt x ∧ q - ε ≤ rv x ∧ rv x ≤ q + ε
theorem sgn_self (i : Int) : sgn (decide (i < 0)) i.natAbs = i := by
  unfold sgn
  by_cases h : i < 0
  · rw [if_pos (by simpa using h)]; omega
  · rw [if_neg (by simpa using h)]; omega
theorem fnt_zero (b : Bool) : Fnt (zero b) ∧ rv (zero b) = 0 := by
  constructor
  · obtain ⟨m, e, h, _⟩ := decode_pack b (t := 0) (by decide)
    exact ⟨_, _, _, h⟩
  · refine rv_of ?_
    unfold zero
    rw [val_pack b (by decide), V_zero]
    cases b <;> simp [sgn]
theorem pow_pos' (k : Nat) : (0 : Rat) < 2 ^ k := Rat.pow_pos (by decide)
theorem eps_pos (k : Nat) : (0 : Rat) ≤ 2 ^ k / 2 ^ 53 := by
  have := pow_pos' k
  grind
theorem add_ap {x y : UInt64} {q : Rat} (hx : Fnt x) (hy : Fnt y) (hq : rv x + rv y = q) (k : Nat) (hk : k ≤ 100) (h1 : -2 ^ k ≤ q) (h2 : q ≤ 2 ^ k) : Ap (add x y) q (2 ^ k / 2 ^ 53) := by
  obtain ⟨a, m, e, hx⟩ := hx
  obtain ⟨b, n, f, hy⟩ := hy
  have h := add_right hx hy
  have e1 := rv_mul x
  have e2 := rv_mul y
  have hs : q * (KK : Rat) = ((val x + val y : Int) : Rat) := by
    rw [Rat.intCast_add, ← e1, ← e2, ← hq, Rat.add_mul]
  by_cases h0 : val x + val y = 0
  · rw [h.1 h0]
    have q0 : q = 0 := by
      rw [h0] at hs
      have := KK_pos
      grind
    refine ⟨(fnt_zero _).1, ?_⟩
    rw [(fnt_zero _).2, q0]
    have := eps_pos k
    constructor <;> grind
  · refine near_rat (h.2 h0) (by decide) ?_ k hk h1 h2
    rw [sgn_self, ← hs]
    simp
theorem neg_fnt {y : UInt64} (h : Fnt y) : Fnt (neg y) ∧ rv (neg y) = - rv y := by
  obtain ⟨b, n, f, hy⟩ := h
  refine ⟨⟨_, _, _, neg_decode hy⟩, ?_⟩
  refine rv_of ?_
  have := rv_mul y
  rw [neg_val hy, Rat.intCast_neg, ← this, Rat.neg_mul]
theorem sub_ap {x y : UInt64} {q : Rat} (hx : Fnt x) (hy : Fnt y) (hq : rv x - rv y = q) (k : Nat) (hk : k ≤ 100) (h1 : -2 ^ k ≤ q) (h2 : q ≤ 2 ^ k) : Ap (sub x y) q (2 ^ k / 2 ^ 53) :=
  have h := add_ap hx (neg_fnt hy).1 (show rv x + rv (neg y) = q by rw [(neg_fnt hy).2, ← hq, Rat.sub_eq_add_neg]) k hk h1 h2
  by unfold PySem.Float64.sub; exact h
theorem sgn_prod (a b : Bool) (m n : Nat) : sgn (a != b) (m * n) = sgn a m * sgn b n := by
  unfold sgn
  cases a <;> cases b <;> simp [Int.neg_mul, Int.mul_neg]
theorem mul_ap {x y : UInt64} {q : Rat} (hx : Fnt x) (hy : Fnt y) (hq : rv x * rv y = q) (k : Nat) (hk : k ≤ 100) (h1 : -2 ^ k ≤ q) (h2 : q ≤ 2 ^ k) : Ap (mul x y) q (2 ^ k / 2 ^ 53) := by
  obtain ⟨a, m, e, hx⟩ := hx
  obtain ⟨b, n, f, hy⟩ := hy
  refine near_rat (mul_right hx hy) (Nat.two_pow_pos _) ?_ k hk h1 h2
  rw [sgn_prod, val_natAbs hx, val_natAbs hy, ← val_eq hx, ← val_eq hy, Rat.intCast_mul, ← rv_mul x, ← rv_mul y, ← hq]
  show _ * (KK : Rat) * (KK : Rat) = _
  generalize (KK : Rat) = K
  grind
theorem div_ap {x y : UInt64} {q : Rat} (hx : Fnt x) (hy : Fnt y) (hy0 : 0 < rv y) (hq : q * rv y = rv x) (k : Nat) (hk : k ≤ 100) (h1 : -2 ^ k ≤ q) (h2 : q ≤ 2 ^ k) : Ap (div x y) q (2 ^ k / 2 ^ 53) := by
  obtain ⟨a, m, e, hx⟩ := hx
  obtain ⟨b, n, f, hy⟩ := hy
  have hvy : 0 < val y := by
    have h9 := Rat.mul_pos hy0 KK_pos
    rw [rv_mul] at h9
    exact_mod_cast h9
  have hv := val_eq hy
  have hn : n ≠ 0 := fun h0 => by
    rw [hv, h0, Nat.zero_mul] at hvy
    unfold sgn at hvy
    cases b <;> simp at hvy
  have hb : b = false := by
    cases b
    · rfl
    · rw [hv] at hvy
      unfold sgn at hvy
      simp only [if_true] at hvy
      omega
  subst hb
  have hna : ((val y).natAbs : Int) = val y := by omega
  refine near_rat (div_right hx hy hn) (by omega) ?_ k hk h1 h2
  have e3 : (((val y).natAbs : Nat) : Rat) = rv y * (KK : Rat) := by
    rw [rv_mul, ← hna, Rat.intCast_natCast]
    simp
  have e4 : sgn (a != false) ((val x).natAbs * 2 ^ 1074) = val x * (KK : Int) := by
    rw [sgn_mul, val_natAbs hx, Bool.bne_false, ← val_eq hx]
    rfl
  rw [e3, e4, Rat.intCast_mul, ← rv_mul x, ← hq, Rat.intCast_natCast]
  generalize (KK : Rat) = K
  grind
/-- a result that is a whole number of 2^-j-ths is hit -/
theorem exact_rat {r : UInt64} {ng : Bool} {W D : Nat} {q : Rat} (R : Right r ng W D) (hD : 0 < D) (hq : q * (D : Rat) * (KK : Rat) = ((sgn ng W : Int) : Rat)) (n j : Nat) (hn : n ≤ 2 ^ 53) (hj : j ≤ 1000) (hW : q * 2 ^ j = ((sgn ng n : Int) : Rat)) : Fnt r ∧ rv r = q := by
  have hK := KK_pos
  have hp := pow_pos' j
  have hJ : ((2 ^ (1074 - j) : Nat) : Rat) * 2 ^ j = (KK : Rat) := by
    have h : 2 ^ (1074 - j) * 2 ^ j = KK := by
      unfold KK
      rw [← Nat.pow_add]
      congr 1
      omega
    exact_mod_cast h
  have hWn : W = D * (n * 2 ^ (1074 - j)) := by
    have : (W : Rat) = (D : Rat) * ((n : Rat) * ((2 ^ (1074 - j) : Nat) : Rat)) := by
      rw [sgn_cast] at hq hW
      generalize (2 : Rat) ^ j = J at *
      generalize ((2 ^ (1074 - j) : Nat) : Rat) = I at *
      rw [← hJ] at hq
      clear hK hp
      cases ng
      · simp only [Bool.false_eq_true, if_false] at hq hW
        grind
      · simp only [if_true] at hq hW
        grind
    exact_mod_cast this
  obtain ⟨hf, hv⟩ := right_exact R hD n (1074 - j) hn (by
    refine Nat.le_trans (Nat.mul_le_mul hn (Nat.pow_le_pow_right (by decide) (show 1074 - j ≤ 1074 by omega))) ?_
    rw [← Nat.pow_add]
    exact Nat.pow_le_pow_right (by decide) (by decide)) hWn
  refine ⟨hf, rv_of ?_⟩
  rw [hv, sgn_mul, Rat.intCast_mul, ← hW, Rat.intCast_natCast, ← hJ]
  generalize (2 : Rat) ^ j = J at *
  generalize ((2 ^ (1074 - j) : Nat) : Rat) = I at *
  grind
theorem sub_exact {x y : UInt64} {q : Rat} (hx : Fnt x) (hy : Fnt y) (hq : rv x - rv y = q) (i : Int) (j : Nat) (hn : i.natAbs ≤ 2 ^ 53) (hj : j ≤ 1000) (hW : q * 2 ^ j = (i : Rat)) : Fnt (sub x y) ∧ rv (sub x y) = q := by
  obtain ⟨a, m, e, hx⟩ := hx
  obtain ⟨b, n, f, hy⟩ := hy
  have h := sub_right hx hy
  have e1 := rv_mul x
  have e2 := rv_mul y
  have hK := KK_pos
  have hp := pow_pos' j
  have hs : q * (KK : Rat) = ((val x - val y : Int) : Rat) := by
    rw [Rat.intCast_sub, ← e1, ← e2, ← hq]
    grind
  by_cases h0 : val x - val y = 0
  · rw [h.1 h0]
    have q0 : q = 0 := by
      rw [h0] at hs
      grind
    rw [q0]
    exact fnt_zero _
  · refine exact_rat (h.2 h0) (by decide) (by rw [sgn_self, ← hs]; simp) i.natAbs j hn hj ?_
    rw [hW]
    congr 1
    have hsg : (val x - val y < 0) ↔ (i < 0) := by
      have c1 : (val x - val y < 0) ↔ q < 0 := by
        rw [← Rat.intCast_lt_intCast, ← hs]
        constructor
        · intro h
          refine Rat.not_le.mp fun hc => ?_
          have := Rat.mul_nonneg hc (Rat.le_of_lt hK)
          grind
        · intro h
          have := Rat.mul_pos (show 0 < -q by grind) hK
          grind
      have c2 : (i < 0) ↔ q < 0 := by
        rw [← Rat.intCast_lt_intCast, ← hW]
        constructor
        · intro h
          refine Rat.not_le.mp fun hc => ?_
          have := Rat.mul_nonneg hc (Rat.le_of_lt hp)
          grind
        · intro h
          have := Rat.mul_pos (show 0 < -q by grind) hp
          grind
      rw [c1, c2]
    rw [show decide (val x - val y < 0) = decide (i < 0) from decide_eq_decide.mpr hsg, sgn_self]
end

section
open PySem PySem.W PyProof.Rows PySem.Flt
set_option Elab.async false
set_option maxRecDepth 100000
open PySem.Float64
theorem frx {a c u : Nat} (hu : u = 2 ^ c) (hc : c ≤ 12) (ha : a ≤ 2 ^ 13) : Fnt (fr a u) ∧ rv (fr a u) * (u : Rat) = (a : Rat) := by
  have h0 : 0 < u := by rw [hu]; exact Nat.two_pow_pos _
  have h0' : (0 : Rat) < (u : Rat) := by exact_mod_cast h0
  have hq : (a : Rat) / (u : Rat) * (u : Rat) = (a : Rat) := Rat.div_mul_cancel (by grind)
  have R : Right (fr a u) false (a * 2 ^ 1074) u := ofFrac_right h0 (by ac_rfl) h0
  obtain ⟨h1, h2⟩ := exact_rat (q := (a : Rat) / (u : Rat)) R h0 (by
    rw [hq, sgn_cast]
    simp only [Bool.false_eq_true, if_false]
    show (a : Rat) * (KK : Rat) = ((a * KK : Nat) : Rat)
    rw [Rat.natCast_mul]) a c (Nat.le_trans ha (by decide)) (by lia) (by
    rw [sgn_cast]
    simp only [Bool.false_eq_true, if_false]
    have e9 : (2 : Rat) ^ c = (u : Rat) := by rw [hu]; simp
    rw [e9, hq])
  exact ⟨h1, by rw [h2, hq]⟩
theorem ofIntx {n : Nat} (hn : n ≤ 2 ^ 53) : Fnt (ofInt (n : Int)) ∧ rv (ofInt (n : Int)) = (n : Rat) := by
  have e : decide ((n : Int) < 0) = false := decide_eq_false (by lia)
  have R := ofInt_right (n : Int)
  rw [Int.natAbs_natCast, e] at R
  refine exact_rat (q := (n : Rat)) R (by decide) ?_ n 0 hn (by decide) ?_
  · rw [sgn_cast]
    simp only [Bool.false_eq_true, if_false]
    show (n : Rat) * ((1 : Nat) : Rat) * (KK : Rat) = ((n * KK : Nat) : Rat)
    rw [Rat.natCast_mul]
    simp
  · rw [sgn_cast]
    simp only [Bool.false_eq_true, if_false]
    grind
theorem con6 : Fnt 0x4018000000000000 ∧ rv 0x4018000000000000 = 6 := by
  rw [show (0x4018000000000000 : UInt64) = ofInt ((6 : Nat) : Int) from by decide +kernel]
  exact ofIntx (by decide)
theorem con1 : Fnt 0x3ff0000000000000 ∧ rv 0x3ff0000000000000 = 1 := by
  rw [show (0x3ff0000000000000 : UInt64) = ofInt ((1 : Nat) : Int) from by decide +kernel]
  exact ofIntx (by decide)
theorem con2 : Fnt 0x4000000000000000 ∧ rv 0x4000000000000000 = 2 := by
  rw [show (0x4000000000000000 : UInt64) = ofInt ((2 : Nat) : Int) from by decide +kernel]
  exact ofIntx (by decide)
theorem con4 : Fnt 0x4010000000000000 ∧ rv 0x4010000000000000 = 4 := by
  rw [show (0x4010000000000000 : UInt64) = ofInt ((4 : Nat) : Int) from by decide +kernel]
  exact ofIntx (by decide)
theorem con0 : Fnt 0 ∧ rv 0 = 0 := fnt_zero false
theorem conH : Fnt 0x3fe0000000000000 ∧ rv 0x3fe0000000000000 = 1 / 2 := by
  rw [show (0x3fe0000000000000 : UInt64) = fr 1 2 from by decide +kernel]
  have := frx (a := 1) (c := 1) (u := 2) (by decide) (by decide) (by decide)
  refine ⟨this.1, ?_⟩
  have h := this.2
  grind
theorem val_lt {x y : UInt64} : val x < val y ↔ rv x < rv y := by
  have hK := KK_pos
  have e1 := rv_mul x
  have e2 := rv_mul y
  rw [← Rat.intCast_lt_intCast, ← e1, ← e2]
  generalize (KK : Rat) = K at *
  clear e1 e2
  constructor
  · intro h
    refine Rat.not_le.mp fun hc => ?_
    have := Rat.mul_nonneg (show 0 ≤ rv x - rv y by grind) (Rat.le_of_lt hK)
    grind
  · intro h
    have := Rat.mul_pos (show 0 < rv y - rv x by grind) hK
    grind
theorem val_eq_iff {x y : UInt64} : val x = val y ↔ rv x = rv y := by
  have h1 := @val_lt x y
  have h2 := @val_lt y x
  constructor
  · intro h
    have a1 := fun h' => h1.mpr h'
    have a2 := fun h' => h2.mpr h'
    refine Rat.le_antisymm (Rat.not_lt.mp fun h' => ?_) (Rat.not_lt.mp fun h' => ?_)
    · have := a2 h'; lia
    · have := a1 h'; lia
  · intro h
    rw [h] at h1 h2
    have a1 := fun h' => h1.mp h'
    have a2 := fun h' => h2.mp h'
    rcases Int.lt_trichotomy (val x) (val y) with h' | h' | h'
    · exact absurd (a1 h') (by grind)
    · exact h'
    · exact absurd (a2 h') (by grind)
theorem cmp_lt {x y : UInt64} (hx : Fnt x) (hy : Fnt y) : (cmp x y == some .lt) = decide (rv x < rv y) := by
  obtain ⟨a, m, e, hx⟩ := hx
  obtain ⟨b, n, f, hy⟩ := hy
  rw [cmp_right hx hy, decide_eq_decide.mpr (val_lt (x := x) (y := y)).symm]
  rcases Int.lt_trichotomy (val x) (val y) with h | h | h
  · rw [Int.compare_eq_lt.mpr h, decide_eq_true h]; rfl
  · rw [Int.compare_eq_eq.mpr h, decide_eq_false (by lia)]; rfl
  · rw [Int.compare_eq_gt.mpr h, decide_eq_false (by lia)]; rfl
theorem cmp_eq {x y : UInt64} (hx : Fnt x) (hy : Fnt y) : (cmp x y == some .eq) = decide (rv x = rv y) := by
  obtain ⟨a, m, e, hx⟩ := hx
  obtain ⟨b, n, f, hy⟩ := hy
  rw [cmp_right hx hy, decide_eq_decide.mpr (val_eq_iff (x := x) (y := y)).symm]
  rcases Int.lt_trichotomy (val x) (val y) with h | h | h
  · rw [Int.compare_eq_lt.mpr h, decide_eq_false (by lia)]; rfl
  · rw [Int.compare_eq_eq.mpr h, decide_eq_true h]; rfl
  · rw [Int.compare_eq_gt.mpr h, decide_eq_false (by lia)]; rfl
theorem fnt_fin {x : UInt64} (h : Fnt x) : isFinite x = true := by
  obtain ⟨a, m, e, h⟩ := h
  unfold isFinite; rw [h]
theorem fnt_inf {x : UInt64} (h : Fnt x) : isInf x = false := by
  obtain ⟨a, m, e, h⟩ := h
  unfold isInf; rw [h]
theorem fnt_nan {x : UInt64} (h : Fnt x) : Float64.isNaN x = false := by
  obtain ⟨a, m, e, h⟩ := h
  unfold Float64.isNaN; rw [h]
theorem fnt_nz {x : UInt64} (h : Fnt x) (h0 : rv x ≠ 0) : isZero x = false := by
  obtain ⟨a, m, e, h⟩ := h
  unfold isZero; rw [h]
  cases m with
  | succ m => rfl
  | zero =>
    exfalso
    refine h0 (rv_of ?_)
    rw [val_eq h]
    cases a <;> simp [sgn]
theorem fnt_z {x : UInt64} (h : Fnt x) (h0 : rv x = 0) : isZero x = true := by
  obtain ⟨a, m, e, h⟩ := h
  unfold isZero; rw [h]
  cases m with
  | zero => rfl
  | succ m =>
    exfalso
    have h1 := rv_mul x
    rw [h0, Rat.zero_mul] at h1
    have h2 : val x = 0 := by exact_mod_cast h1.symm
    have h3 := val_natAbs h
    rw [h2] at h3
    have := Nat.mul_pos (Nat.succ_pos m) (Nat.two_pow_pos (e + 1074).toNat)
    rw [← Nat.succ_eq_add_one] at h3
    rw [← h3] at this
    exact absurd this (by decide)
theorem trunc_of {x : UInt64} {n : Nat} (hx : Fnt x) (h1 : (n : Rat) ≤ rv x) (h2 : rv x < (n : Rat) + 1) : toInt truncOf x = (n : Int) := by
  have hK := KK_pos
  have e1 := rv_mul x
  obtain ⟨a, m, e, hd⟩ := hx
  have b1 : (n : Int) * (KK : Int) ≤ val x := by
    have : (n : Rat) * (KK : Rat) ≤ (val x : Rat) := by
      rw [← e1]; exact Rat.mul_le_mul_of_nonneg_right h1 (Rat.le_of_lt hK)
    exact_mod_cast this
  have b2 : val x < ((n : Int) + 1) * (KK : Int) := by
    have : (val x : Rat) < ((n : Rat) + 1) * (KK : Rat) := by
      rw [← e1]; exact Rat.mul_lt_mul_of_pos_right h2 hK
    exact_mod_cast this
  have he := decode_ge hd
  have hv := val_eq hd
  unfold toInt
  rw [hd]
  show truncOf a m e = _
  have kp : 0 < KK := Nat.two_pow_pos _
  cases a
  · unfold truncOf floorOf
    simp only [Bool.false_eq_true, if_false]
    have hv' : val x = ((m * 2 ^ (e + 1074).toNat : Nat) : Int) := by rw [hv]; rfl
    rw [hv'] at b1 b2
    have c1 : n * KK ≤ m * 2 ^ (e + 1074).toNat := by exact_mod_cast b1
    have c2 : m * 2 ^ (e + 1074).toNat < (n + 1) * KK := by exact_mod_cast b2
    split
    · rename_i hge
      have e2 : m * 2 ^ (e + 1074).toNat = m * 2 ^ e.toNat * KK := by
        unfold KK
        rw [Nat.mul_assoc, ← Nat.pow_add]; congr 2; lia
      rw [e2] at c1 c2
      have d1 := Nat.le_of_mul_le_mul_right c1 kp
      have d2 := Nat.lt_of_mul_lt_mul_right c2
      have e3 : m * 2 ^ e.toNat = n := by lia
      show (m : Int) * 2 ^ e.toNat = n
      exact_mod_cast e3
    · rename_i hge
      have e2 : KK = 2 ^ (-e).toNat * 2 ^ (e + 1074).toNat := by
        unfold KK
        rw [← Nat.pow_add]; congr 1; lia
      rw [e2, ← Nat.mul_assoc] at c1 c2
      have d1 := Nat.le_of_mul_le_mul_right c1 (Nat.two_pow_pos _)
      have d2 := Nat.lt_of_mul_lt_mul_right c2
      have e3 : m / 2 ^ (-e).toNat = n := by
        refine Nat.div_eq_of_lt_le d1 ?_
        exact d2
      show Int.fdiv (m : Int) (2 ^ (-e).toNat) = n
      have e4 : ((2 : Int) ^ (-e).toNat) = ((2 ^ (-e).toNat : Nat) : Int) := by simp
      rw [e4, Int.fdiv_eq_ediv_of_nonneg _ (Int.natCast_nonneg _), ← Int.natCast_ediv, e3]
  · have hv' : val x = -((m * 2 ^ (e + 1074).toNat : Nat) : Int) := by rw [hv]; rfl
    have p2 := Nat.two_pow_pos (e + 1074).toNat
    have n0 : n = 0 := by
      rcases Nat.eq_zero_or_pos n with h | h
      · exact h
      · exfalso
        have q1 : 0 < n * KK := Nat.mul_pos h kp
        have q2 : (0 : Int) < (n : Int) * (KK : Int) := by exact_mod_cast q1
        lia
    have m0 : m = 0 := by
      rcases Nat.eq_zero_or_pos m with h | h
      · exact h
      · exfalso
        have q1 := Nat.mul_pos h p2
        rw [n0] at b1
        lia
    subst n0; subst m0
    unfold truncOf ceilOf floorOf
    simp [sgn]
end

section
open PySem PySem.W PyProof.Rows PySem.Flt
set_option Elab.async false
set_option maxRecDepth 100000
open PySem.Float64
theorem dec1 : decode 0x3ff0000000000000 = .fin false (2 ^ 52) (-52) := by kernel_rfl
theorem decode_le {x : UInt64} {a : Bool} {m : Nat} {e : Int} (h : decode x = .fin a m e) : m ≤ 2 ^ 53 := by
  unfold decode at h
  simp only at h
  split at h
  · split at h <;> cases h
  · split at h
    · cases h; lia
    · cases h; lia
theorem fmodx {y : UInt64} (hy : Fnt y) (h1 : -1 < rv y) (h2 : rv y < 1) : Fnt (Float64.fmod y 0x3ff0000000000000) ∧ rv (Float64.fmod y 0x3ff0000000000000) = rv y := by
  have hK := KK_pos
  have e1 := rv_mul y
  obtain ⟨a, m, e, hd⟩ := hy
  have he := decode_ge hd
  have b : (val y).natAbs < KK := by
    have b1 : -(KK : Int) < val y := by
      have : ((-(KK : Int) : Int) : Rat) < (val y : Rat) := by
        rw [← e1, Rat.intCast_neg, Rat.intCast_natCast]
        have := Rat.mul_pos (show 0 < rv y + 1 by grind) hK
        grind
      exact_mod_cast this
    have b2 : val y < (KK : Int) := by
      have : (val y : Rat) < (KK : Rat) := by
        rw [← e1]
        have := Rat.mul_pos (show 0 < 1 - rv y by grind) hK
        grind
      exact_mod_cast this
    lia
  rw [val_natAbs hd] at b
  have hf : Float64.fmod y 0x3ff0000000000000 = ofBin a (m * 2 ^ (e - min e (-52)).toNat % (2 ^ 52 * 2 ^ (-52 - min e (-52)).toNat)) (min e (-52)) := by
    unfold Float64.fmod
    rw [hd, dec1]
    rfl
  have hlt : m * 2 ^ (e - min e (-52)).toNat < 2 ^ 52 * 2 ^ (-52 - min e (-52)).toNat := by
    refine Nat.lt_of_mul_lt_mul_right (a := 2 ^ (min e (-52) + 1074).toNat) ?_
    rw [Nat.mul_assoc, Nat.mul_assoc, ← Nat.pow_add, ← Nat.pow_add, ← Nat.pow_add]
    have e2 : (e - min e (-52)).toNat + (min e (-52) + 1074).toNat = (e + 1074).toNat := by lia
    have e3 : 52 + ((-52 - min e (-52)).toNat + (min e (-52) + 1074).toNat) = 1074 := by lia
    rw [e2, e3]
    exact b
  rw [Nat.mod_eq_of_lt hlt] at hf
  have R : Right (Float64.fmod y 0x3ff0000000000000) a (m * 2 ^ (e + 1074).toNat) 1 := by
    rw [hf]
    have := shift_one (m * 2 ^ (e - min e (-52)).toNat) (min e (-52)) 1074 (by lia)
    have e2 : (e - min e (-52)).toNat + (min e (-52) + ((1074 : Nat) : Int)).toNat = (e + 1074).toNat := by lia
    rw [Nat.mul_assoc m, ← Nat.pow_add, e2] at this
    unfold ofBin
    refine ofFrac_right (shift_pos _ _ _ (by decide)) ?_ (by decide)
    rw [Nat.mul_one]
    exact this
  obtain ⟨f1, f2⟩ := right_exact R (by decide) m (e + 1074).toNat (decode_le hd) (Nat.le_trans (Nat.le_of_lt b) (Nat.pow_le_pow_right (by decide) (by decide))) (Nat.one_mul _).symm
  exact ⟨f1, val_eq_iff.mp (by rw [f2, val_eq hd])⟩
theorem z0 : zero false = 0 := by decide +kernel
theorem lt0 {x : UInt64} (h : Fnt x) : Float64.lt x (zero false) = decide (rv x < 0) := by
  unfold Float64.lt
  rw [cmp_lt h (fnt_zero _).1, (fnt_zero _).2]
theorem hue_pos {y : UInt64} (hy : Fnt y) (h1 : 0 < rv y) (h2 : rv y < 1) : Fnt (Float64.divmod y 0x3ff0000000000000).2 ∧ rv (Float64.divmod y 0x3ff0000000000000).2 = rv y := by
  obtain ⟨f1, f2⟩ := fmodx hy (by grind) h2
  have n0 : isZero (Float64.fmod y 0x3ff0000000000000) = false := fnt_nz f1 (by rw [f2]; grind)
  have n1 : Float64.lt (Float64.fmod y 0x3ff0000000000000) (zero false) = false := by rw [lt0 f1, f2]; exact decide_eq_false (by grind)
  have n2 : Float64.lt 0x3ff0000000000000 (zero false) = false := by decide +kernel
  have e : (Float64.divmod y 0x3ff0000000000000).2 = Float64.fmod y 0x3ff0000000000000 := by
    unfold Float64.divmod
    simp only [n0, n1, n2, Bool.false_eq_true, if_false, bne_self_eq_false]
  rw [e]; exact ⟨f1, f2⟩
theorem hue_neg {y : UInt64} (hy : Fnt y) (h1 : -1 < rv y) (h2 : rv y < 0) : Ap (Float64.divmod y 0x3ff0000000000000).2 (rv y + 1) (2 ^ 0 / 2 ^ 53) := by
  obtain ⟨f1, f2⟩ := fmodx hy h1 (by grind)
  have n0 : isZero (Float64.fmod y 0x3ff0000000000000) = false := fnt_nz f1 (by rw [f2]; grind)
  have n1 : Float64.lt (Float64.fmod y 0x3ff0000000000000) (zero false) = true := by rw [lt0 f1, f2]; exact decide_eq_true h2
  have n2 : Float64.lt 0x3ff0000000000000 (zero false) = false := by decide +kernel
  have e : (Float64.divmod y 0x3ff0000000000000).2 = Float64.add (Float64.fmod y 0x3ff0000000000000) 0x3ff0000000000000 := by
    unfold Float64.divmod
    simp only [n0, n1, n2, Bool.false_eq_true, if_false]
    rfl
  rw [e]
  exact add_ap f1 con1.1 (by rw [f2, con1.2]) 0 (by decide) (by grind) (by grind)
theorem hue_zero {y : UInt64} (hy : Fnt y) (h0 : rv y = 0) : Fnt (Float64.divmod y 0x3ff0000000000000).2 ∧ rv (Float64.divmod y 0x3ff0000000000000).2 = 0 := by
  obtain ⟨f1, f2⟩ := fmodx hy (by grind) (by grind)
  have n0 : isZero (Float64.fmod y 0x3ff0000000000000) = true := fnt_z f1 (by rw [f2]; exact h0)
  have e : (Float64.divmod y 0x3ff0000000000000).2 = copysign (zero false) 0x3ff0000000000000 := by
    unfold Float64.divmod
    simp only [n0, if_true]
  rw [e, show copysign (zero false) 0x3ff0000000000000 = 0 from by decide +kernel]
  exact con0
/-- the three components and their unit -/
structure Tri (r g b u c : Nat) : Prop where
  hu : u = 2 ^ c
  hc : c ≤ 12
  hr : r < u
  hg : g < u
  hb : b < u
theorem u_le {u c : Nat} (hu : u = 2 ^ c) (hc : c ≤ 12) : u ≤ 4096 := by
  rw [hu]; exact Nat.le_trans (Nat.pow_le_pow_right (by decide) hc) (by decide)
theorem rv_fr_lt {a b u c : Nat} (hu : u = 2 ^ c) (hc : c ≤ 12) (ha : a < u) (hb : b < u) : rv (fr a u) < rv (fr b u) ↔ a < b := by
  have hl := u_le hu hc
  have h1 := (frx hu hc (show a ≤ 2 ^ 13 by lia)).2
  have h2 := (frx hu hc (show b ≤ 2 ^ 13 by lia)).2
  have h0 : (0 : Rat) < (u : Rat) := by exact_mod_cast (show 0 < u by lia)
  rw [← Rat.natCast_lt_natCast, ← h1, ← h2]
  generalize (u : Rat) = U at *
  clear h1 h2
  constructor
  · intro h
    have := Rat.mul_pos (show 0 < rv (fr b u) - rv (fr a u) by grind) h0
    grind
  · intro h
    refine Rat.not_le.mp fun hc => ?_
    have := Rat.mul_nonneg (show 0 ≤ rv (fr a u) - rv (fr b u) by grind) (Rat.le_of_lt h0)
    grind
theorem cmp_fr {a b u c : Nat} (hu : u = 2 ^ c) (hc : c ≤ 12) (ha : a < u) (hb : b < u) : (cmp (fr a u) (fr b u) == some .lt) = decide (a < b) := by
  have hl := u_le hu hc
  rw [cmp_lt (frx hu hc (show a ≤ 2 ^ 13 by lia)).1 (frx hu hc (show b ≤ 2 ^ 13 by lia)).1]
  exact decide_eq_decide.mpr (rv_fr_lt hu hc ha hb)
theorem cmpE_fr {a b u c : Nat} (hu : u = 2 ^ c) (hc : c ≤ 12) (ha : a < u) (hb : b < u) : (cmp (fr a u) (fr b u) == some .eq) = decide (a = b) := by
  have hl := u_le hu hc
  have f1 := (frx hu hc (show a ≤ 2 ^ 13 by lia)).1
  have f2 := (frx hu hc (show b ≤ 2 ^ 13 by lia)).1
  have l1 := rv_fr_lt hu hc ha hb
  have l2 := rv_fr_lt hu hc hb ha
  rw [cmp_eq f1 f2]
  refine decide_eq_decide.mpr ⟨fun h => ?_, fun h => by rw [h]⟩
  rw [h] at l1 l2
  have n1 : ¬ a < b := fun h' => absurd (l1.mpr h') (by grind)
  have n2 : ¬ b < a := fun h' => absurd (l2.mpr h') (by grind)
  lia
theorem maxF_fr {r g b u c : Nat} (T : Tri r g b u c) : maxF (fr r u) (fr g u) (fr b u) = fr (max (max r g) b) u := by
  unfold maxF
  rw [cmp_fr T.hu T.hc T.hr T.hg, cmp_fr T.hu T.hc T.hg T.hb, cmp_fr T.hu T.hc T.hr T.hb]
  simp only [decide_eq_true_eq]
  repeat' split
  all_goals (congr 1; lia)
theorem minF_fr {r g b u c : Nat} (T : Tri r g b u c) : minF (fr r u) (fr g u) (fr b u) = fr (min (min r g) b) u := by
  unfold minF
  rw [cmp_fr T.hu T.hc T.hg T.hr, cmp_fr T.hu T.hc T.hb T.hg, cmp_fr T.hu T.hc T.hb T.hr]
  simp only [decide_eq_true_eq]
  repeat' split
  all_goals (congr 1; lia)
end

section
open PySem PySem.W PyProof.Rows PySem.Flt
set_option Elab.async false
set_option maxRecDepth 100000
open PySem.Float64
theorem quo_le {φ N P B : Rat} (hN : 0 < N) (h : φ * N = P) (hP : P ≤ B * N) : φ ≤ B := by
  refine Rat.not_lt.mp fun hc => ?_
  have := Rat.mul_pos (show 0 < φ - B by grind) hN
  grind
theorem quo_ge {φ N P B : Rat} (hN : 0 < N) (h : φ * N = P) (hP : B * N ≤ P) : B ≤ φ := by
  refine Rat.not_lt.mp fun hc => ?_
  have := Rat.mul_pos (show 0 < B - φ by grind) hN
  grind
theorem cancelU {a b U : Rat} (hU : 0 < U) (h : a * U = b * U) : a = b := by
  have : (a - b) * U = 0 := by grind
  rcases Rat.mul_eq_zero.mp this with h | h <;> grind
theorem Ap.wid {x : UInt64} {q p ε δ : Rat} (h : Ap x q ε) (h1 : p - δ ≤ q - ε) (h2 : q + ε ≤ p + δ) : Ap x p δ :=
  ⟨h.1, Rat.le_trans h1 h.2.1, Rat.le_trans h.2.2 h2⟩
/-- the greatest, the least, the spread -/
structure Spr (r g b top mn n : Nat) : Prop where
  htop : top = max (max r g) b
  hmn : mn = min (min r g) b
  hn : top = mn + n
  n0 : 0 < n
theorem Spr.facts {r g b top mn n : Nat} (S : Spr r g b top mn n) : (r ≤ top ∧ g ≤ top ∧ b ≤ top) ∧ (mn ≤ r ∧ mn ≤ g ∧ mn ≤ b) ∧ (r = top ∨ g = top ∨ b = top) ∧ (r = mn ∨ g = mn ∨ b = mn) := by
  obtain ⟨htop, hmn, _, _⟩ := S
  subst htop hmn
  exact ⟨⟨Nat.le_trans (Nat.le_max_left r g) (Nat.le_max_left _ b), Nat.le_trans (Nat.le_max_right r g) (Nat.le_max_left _ b), Nat.le_max_right _ b⟩, ⟨Nat.le_trans (Nat.min_le_left _ b) (Nat.min_le_left r g), Nat.le_trans (Nat.min_le_left _ b) (Nat.min_le_right r g), Nat.min_le_right _ b⟩, by lia, by lia⟩
theorem Spr.lt {r g b u c top mn n : Nat} (S : Spr r g b top mn n) (T : Tri r g b u c) : top < u := by
  rcases S.facts.2.2.1 with h | h | h
  · exact h ▸ T.hr
  · exact h ▸ T.hg
  · exact h ▸ T.hb
theorem natLe {a b : Nat} (h : a ≤ b) : (a : Rat) ≤ (b : Rat) := by exact_mod_cast h
theorem natLt {a b : Nat} (h : a < b) : (a : Rat) < (b : Rat) := by exact_mod_cast h
theorem sub_fr {a b u c : Nat} (hu : u = 2 ^ c) (hc : c ≤ 12) (ha : a < u) (hb : b ≤ a) : Fnt (Float64.sub (fr a u) (fr b u)) ∧ rv (Float64.sub (fr a u) (fr b u)) * (u : Rat) = (a : Rat) - (b : Rat) := by
  have hl := u_le hu hc
  obtain ⟨f1, e1⟩ := frx hu hc (show a ≤ 2 ^ 13 by lia)
  obtain ⟨f2, e2⟩ := frx hu hc (show b ≤ 2 ^ 13 by lia)
  have e9 : (2 : Rat) ^ c = (u : Rat) := by rw [hu]; simp
  obtain ⟨g1, g2⟩ := sub_exact f1 f2 rfl ((a : Int) - (b : Int)) c (by lia) (by lia) (by
    rw [e9, Rat.intCast_sub, Rat.intCast_natCast, Rat.intCast_natCast, ← e1, ← e2]
    generalize (u : Rat) = U
    grind)
  refine ⟨g1, ?_⟩
  rw [g2, ← e1, ← e2]
  generalize (u : Rat) = U
  grind
section
variable {r g b u c top mn n : Nat}
theorem off_ap (T : Tri r g b u c) (S : Spr r g b top mn n) (a : Nat) (h1 : mn ≤ a) (h2 : a ≤ top) :
    ∃ q : Rat, q * (n : Rat) = (top : Rat) - (a : Rat) ∧ 0 ≤ q ∧ q ≤ 1 ∧ Ap (offF (fr r u) (fr g u) (fr b u) (fr a u)) q (1 / 2 ^ 53) := by
  have ht : top < u := S.lt T
  obtain ⟨htop, hmn, hn, n0⟩ := S
  unfold offF rngF
  rw [maxF_fr T, minF_fr T, ← htop, ← hmn]
  obtain ⟨s1, s2⟩ := sub_fr T.hu T.hc ht h2
  obtain ⟨d1, d2⟩ := sub_fr T.hu T.hc ht (show mn ≤ top by lia)
  have hN : (0 : Rat) < (n : Rat) := natLt n0
  have hU : (0 : Rat) < (u : Rat) := natLt (show 0 < u by lia)
  have ea : (top : Rat) = (mn : Rat) + (n : Rat) := by rw [hn, Rat.natCast_add]
  have l1 := natLe h1
  have l2 := natLe h2
  generalize Float64.sub (fr top u) (fr a u) = X at *
  generalize Float64.sub (fr top u) (fr mn u) = Y at *
  have hY : 0 < rv Y := by
    refine Rat.not_le.mp fun hc => ?_
    have := Rat.mul_nonneg (show 0 ≤ - rv Y by grind) (Rat.le_of_lt hU)
    grind
  have hq : ((top : Rat) - (a : Rat)) / (n : Rat) * (n : Rat) = (top : Rat) - (a : Rat) := Rat.div_mul_cancel (by grind)
  generalize ((top : Rat) - (a : Rat)) / (n : Rat) = q at *
  have q0 : 0 ≤ q := quo_ge hN hq (by grind)
  have q1 : q ≤ 1 := quo_le hN hq (by grind)
  refine ⟨q, hq, q0, q1, (div_ap (q := q) s1 d1 hY (cancelU hU ?_) 0 (by decide) (by grind) (by grind)).wid (by grind) (by grind)⟩
  rw [s2, ← hq, Rat.mul_assoc, d2, ea]
  grind
theorem h_ap (T : Tri r g b u c) (S : Spr r g b top mn n) :
    ∃ (P : Int) (q : Rat), q * (n : Rat) = (P : Rat) ∧ -1 ≤ q ∧ q ≤ 5 ∧ Ap (hF (fr r u) (fr g u) (fr b u)) q (18 / 2 ^ 53) ∧ ((r = top ∧ P = (g : Int) - b) ∨ (r ≠ top ∧ g = top ∧ P = 2 * (n : Int) + b - r) ∨ (r ≠ top ∧ g ≠ top ∧ P = 4 * (n : Int) + r - g)) ∧ (P = 0 → rv (hF (fr r u) (fr g u) (fr b u)) = 0) := by
  have ht : top < u := S.lt T
  obtain ⟨⟨hrt, hgt, hbt⟩, ⟨hrm, hgm, hbm⟩, -, -⟩ := S.facts
  obtain ⟨qr, er, r0, r1, fr1, fr2, fr3⟩ := off_ap T S r hrm hrt
  obtain ⟨qg, eg, g0, g1, fg1, fg2, fg3⟩ := off_ap T S g hgm hgt
  obtain ⟨qb, eb, b0, b1, fb1, fb2, fb3⟩ := off_ap T S b hbm hbt
  obtain ⟨htop, hmn, hn, n0⟩ := S
  have hN : (0 : Rat) < (n : Rat) := natLt n0
  unfold hF
  rw [maxF_fr T, ← htop, cmpE_fr T.hu T.hc T.hr ht, cmpE_fr T.hu T.hc T.hg ht]
  clear htop hmn ht
  by_cases hr : r = top
  · rw [if_pos (by simpa using hr)]
    have A := sub_ap fb1 fg1 rfl 1 (by decide) (by grind) (by grind)
    refine ⟨(g : Int) - b, qb - qg, ?_, by grind, by grind, A.wid (by grind) (by grind), .inl ⟨hr, rfl⟩, ?_⟩
    · rw [Rat.intCast_sub, Rat.intCast_natCast, Rat.intCast_natCast]
      grind
    · intro h0
      have e : g = b := by lia
      subst e
      exact (sub_exact fb1 fg1 (q := 0) (by grind) 0 0 (by decide) (by decide) (by simp)).2
  · rw [if_neg (by simpa using hr)]
    have l1 : r + 1 ≤ top := by lia
    by_cases hg : g = top
    · rw [if_pos (by simpa using hg)]
      have A := add_ap con2.1 fr1 rfl 2 (by decide) (by rw [con2.2]; grind) (by rw [con2.2]; grind)
      rw [con2.2] at A
      obtain ⟨A1, A2, A3⟩ := A
      have B := sub_ap A1 fb1 rfl 2 (by decide) (by grind) (by grind)
      refine ⟨2 * (n : Int) + b - r, 2 + qr - qb, ?_, by grind, by grind, B.wid (by grind) (by grind), .inr (.inl ⟨hr, hg, rfl⟩), fun h0 => by lia⟩
      rw [Rat.intCast_sub, Rat.intCast_add, Rat.intCast_mul, Rat.intCast_natCast, Rat.intCast_natCast, Rat.intCast_natCast]
      grind
    · rw [if_neg (by simpa using hg)]
      have A := add_ap con4.1 fg1 rfl 3 (by decide) (by rw [con4.2]; grind) (by rw [con4.2]; grind)
      rw [con4.2] at A
      obtain ⟨A1, A2, A3⟩ := A
      have B := sub_ap A1 fr1 rfl 3 (by decide) (by grind) (by grind)
      refine ⟨4 * (n : Int) + r - g, 4 + qg - qr, ?_, by grind, by grind, B.wid (by grind) (by grind), .inr (.inr ⟨hr, hg, rfl⟩), fun h0 => by lia⟩
      rw [Rat.intCast_sub, Rat.intCast_add, Rat.intCast_mul, Rat.intCast_natCast, Rat.intCast_natCast, Rat.intCast_natCast]
      grind
end
end

section
open PySem PySem.W PyProof.Rows PySem.Flt
set_option Elab.async false
set_option maxRecDepth 100000
open PySem.Float64
theorem val0 {x : UInt64} (h : rv x = 0) : val x = 0 := by
  have h1 := rv_mul x
  rw [h, Rat.zero_mul] at h1
  exact_mod_cast h1.symm
theorem div_zero6 {x : UInt64} (hx : Fnt x) (h0 : rv x = 0) : Fnt (Float64.div x 0x4018000000000000) ∧ rv (Float64.div x 0x4018000000000000) = 0 := by
  have hv := val0 h0
  obtain ⟨a, m, e, hx⟩ := hx
  have c6 := con6
  obtain ⟨⟨b, k, f, hy⟩, hy2⟩ := c6
  have h6 := rv_mul 0x4018000000000000
  rw [hy2] at h6
  have hvy : 0 < val 0x4018000000000000 := by
    have h9 := Rat.mul_pos (show (0 : Rat) < 6 by decide) KK_pos
    rw [h6] at h9
    exact_mod_cast h9
  have hk : k ≠ 0 := fun h0 => by
    rw [val_eq hy, h0, Nat.zero_mul] at hvy
    unfold sgn at hvy
    cases b <;> simp at hvy
  have R := div_right hx hy hk
  rw [hv] at R
  refine exact_rat (q := 0) R (by lia) ?_ 0 0 (by decide) (by decide) ?_
  · rw [sgn_cast]; simp
  · rw [sgn_cast]; simp
theorem mul_zero {x y : UInt64} (hx : Fnt x) (hy : Fnt y) (h0 : rv x = 0) : Fnt (Float64.mul x y) ∧ rv (Float64.mul x y) = 0 := by
  have hv := val0 h0
  obtain ⟨a, m, e, hx⟩ := hx
  obtain ⟨b, k, f, hy⟩ := hy
  have R := mul_right hx hy
  rw [hv] at R
  refine exact_rat (q := 0) R (Nat.two_pow_pos _) ?_ 0 0 (by decide) (by decide) ?_
  · rw [sgn_cast]; simp
  · rw [sgn_cast]; simp
section
variable {r g b u c top mn n : Nat}
/-- the hue's place on the ring -/
def PlaceOf (r g b top n P : Nat) : Prop :=
  (r = top ∧ b ≤ g ∧ P + b = g) ∨ (r = top ∧ g < b ∧ P + b = 6 * n + g) ∨ (r ≠ top ∧ g = top ∧ P + r = 2 * n + b) ∨ (r ≠ top ∧ g ≠ top ∧ P + g = 4 * n + r)
theorem hue_ap (T : Tri r g b u c) (S : Spr r g b top mn n) :
    ∃ (P : Nat) (φ : Rat), φ * (n : Rat) = (P : Rat) ∧ 0 ≤ φ ∧ φ ≤ 6 - 1 / 4096 ∧ (P ≠ 0 → 1 / 4096 ≤ φ) ∧ Ap (hueF (fr r u) (fr g u) (fr b u)) (φ / 6) (5 / 2 ^ 53) ∧ (P = 0 → rv (hueF (fr r u) (fr g u) (fr b u)) = 0) ∧ PlaceOf r g b top n P := by
  obtain ⟨P, q, hq, q1, q2, ⟨f1, f2, f3⟩, hP, hz⟩ := h_ap T S
  have ht := S.lt T
  obtain ⟨⟨hrt, hgt, hbt⟩, ⟨hrm, hgm, hbm⟩, -, -⟩ := S.facts
  obtain ⟨htop, hmn, hn, n0⟩ := S
  have hl := u_le T.hu T.hc
  clear htop hmn
  have n9 : n ≤ 4096 := by lia
  have hN : (0 : Rat) < (n : Rat) := natLt n0
  have hN9 : (n : Rat) ≤ 4096 := natLe n9
  clear hl ht
  unfold hueF
  generalize hF (fr r u) (fr g u) (fr b u) = h at *
  have D := div_ap (q := rv h / 6) f1 con6.1 (by rw [con6.2]; decide) (by rw [con6.2]; grind) 0 (by decide) (by grind) (by grind)
  obtain ⟨d1, d2, d3⟩ := D
  have d4 : q / 6 - 4 / 2 ^ 53 ≤ rv (Float64.div h 0x4018000000000000) := by grind
  have d5 : rv (Float64.div h 0x4018000000000000) ≤ q / 6 + 4 / 2 ^ 53 := by grind
  have zz := fun h0 => div_zero6 f1 (hz h0)
  clear d2 d3 hz
  generalize Float64.div h 0x4018000000000000 = y at *
  rcases Int.lt_trichotomy P 0 with h0 | h0 | h0
  · have hP1 : (P : Rat) ≤ -1 := by
      have h9 : P ≤ -1 := by lia
      have h8 : (P : Rat) ≤ ((-1 : Int) : Rat) := Rat.intCast_le_intCast.mpr h9
      rw [show ((-1 : Int) : Rat) = -1 from rfl] at h8
      exact h8
    have q3 : q ≤ -(1 / 4096) := quo_le hN hq (by grind)
    obtain ⟨a1, a2, a3⟩ := hue_neg d1 (by grind) (by grind)
    refine ⟨(P + 6 * n).toNat, q + 6, ?_, by grind, by grind, fun _ => by grind, ⟨a1, by grind, by grind⟩, fun hc => ?_, ?_⟩
    · have hb9 : 0 ≤ P + 6 * (n : Int) := by rcases hP with ⟨-, e⟩ | ⟨-, -, e⟩ | ⟨-, -, e⟩ <;> lia
      have e : (((P + 6 * n).toNat : Nat) : Rat) = (P : Rat) + 6 * (n : Rat) := by
        rw [← Rat.intCast_natCast, Int.toNat_of_nonneg hb9, Rat.intCast_add, Rat.intCast_mul, Rat.intCast_natCast]
        rfl
      rw [e, ← hq]
      grind
    · rcases hP with ⟨-, e⟩ | ⟨-, -, e⟩ | ⟨-, -, e⟩ <;> lia
    · rcases hP with ⟨h8, e⟩ | ⟨-, -, e⟩ | ⟨-, -, e⟩
      · exact .inr (.inl ⟨h8, by lia, by lia⟩)
      · exfalso; lia
      · exfalso; lia
  · obtain ⟨y1, y2⟩ := zz h0
    obtain ⟨z1, z2⟩ := hue_zero y1 y2
    refine ⟨0, 0, by simp, by decide, by decide +kernel, fun h => absurd rfl h, ⟨z1, by rw [z2]; decide +kernel, by rw [z2]; decide +kernel⟩, fun _ => z2, ?_⟩
    rcases hP with ⟨h8, e⟩ | ⟨-, -, e⟩ | ⟨-, -, e⟩
    · exact .inl ⟨h8, by lia, by lia⟩
    · exfalso; lia
    · exfalso; lia
  · have hP1 : 1 ≤ (P : Rat) := by
      have h9 : 1 ≤ P := by lia
      have h8 : ((1 : Int) : Rat) ≤ (P : Rat) := Rat.intCast_le_intCast.mpr h9
      rw [show ((1 : Int) : Rat) = 1 from rfl] at h8
      exact h8
    have q3 : 1 / 4096 ≤ q := quo_ge hN hq (by grind)
    obtain ⟨a1, a2⟩ := hue_pos d1 (by grind) (by grind)
    refine ⟨P.toNat, q, ?_, by grind, by grind, fun _ => q3, ⟨a1, by grind, by grind⟩, fun hc => by lia, ?_⟩
    · rw [hq, ← Rat.intCast_natCast, Int.toNat_of_nonneg (by lia)]
    · rcases hP with ⟨h8, e⟩ | ⟨h8, h7, e⟩ | ⟨h8, h7, e⟩
      · exact .inl ⟨h8, by lia, by lia⟩
      · exact .inr (.inr (.inl ⟨h8, h7, by lia⟩))
      · exact .inr (.inr (.inr ⟨h8, h7, by lia⟩))
theorem h6_ap {hue k6 : UInt64} {φ : Rat} (H : Ap hue (φ / 6) (5 / 2 ^ 53)) (c6 : Fnt k6 ∧ rv k6 = 6) (h0 : 0 ≤ φ) (h1 : φ ≤ 6) : Ap (Float64.mul hue k6) φ (38 / 2 ^ 53) := by
  obtain ⟨f1, f2, f3⟩ := H
  exact (mul_ap (q := rv hue * 6) f1 c6.1 (by rw [c6.2]) 3 (by decide) (by grind) (by grind)).wid (by grind) (by grind)
theorem near_ok {hue : UInt64} {φ : Rat} {n P : Nat} (hφ : φ * (n : Rat) = (P : Rat)) (hn : n ≤ 4096) (n0 : 0 < n) (h0 : 0 ≤ φ) (h1 : φ ≤ 6) (H : Ap hue (φ / 6) (5 / 2 ^ 53)) :
    isFinite (nearF hue n) = true ∧ toInt truncOf (nearF hue n) = ((P * 1073741824 : Nat) : Int) := by
  have hN : (0 : Rat) < (n : Rat) := natLt n0
  have hN9 : (n : Rat) ≤ 4096 := natLe hn
  unfold nearF
  obtain ⟨a1, a2, a3⟩ := h6_ap H (ofIntx (n := 6) (by decide)) h0 h1
  generalize Float64.mul hue (ofInt ((6 : Nat) : Int)) = X1 at *
  have m1 := Rat.mul_nonneg (show 0 ≤ φ + 38 / 2 ^ 53 - rv X1 by grind) (Rat.le_of_lt hN)
  have m2 := Rat.mul_nonneg (show 0 ≤ rv X1 - φ + 38 / 2 ^ 53 by grind) (Rat.le_of_lt hN)
  have m3 := Rat.mul_nonneg (show 0 ≤ 6 - φ by grind) (Rat.le_of_lt hN)
  have m4 := Rat.mul_nonneg h0 (Rat.le_of_lt hN)
  have o := ofIntx (n := n) (by lia)
  have o2 := ofIntx (n := 1073741824) (by decide)
  have b1 : rv X1 * (n : Rat) ≤ (P : Rat) + 38 * 4096 / 2 ^ 53 := by grind
  have b2 : (P : Rat) - 38 * 4096 / 2 ^ 53 ≤ rv X1 * (n : Rat) := by grind
  have b3 : (P : Rat) ≤ 6 * 4096 := by grind
  have b4 : 0 ≤ (P : Rat) := by grind
  clear m1 m2 m3 m4 hφ
  obtain ⟨x1, x2, x3⟩ := mul_ap (q := rv X1 * (n : Rat)) a1 o.1 (by rw [o.2]) 15 (by decide) (by grind) (by grind)
  generalize Float64.mul X1 (ofInt (n : Int)) = X2 at *
  generalize rv X1 * (n : Rat) = Z at *
  obtain ⟨y1, y2, y3⟩ := mul_ap (q := rv X2 * 1073741824) x1 o2.1 (by rw [o2.2]; rfl) 45 (by decide) (by grind) (by grind)
  generalize Float64.mul X2 (ofInt ((1073741824 : Nat) : Int)) = X3 at *
  obtain ⟨w1, w2, w3⟩ := add_ap (q := rv X3 + 1 / 2) y1 conH.1 (by rw [conH.2]) 46 (by decide) (by grind) (by grind)
  refine ⟨fnt_fin w1, trunc_of w1 ?_ ?_⟩
  · rw [Rat.natCast_mul]
    show (P : Rat) * 1073741824 ≤ _
    grind
  · rw [Rat.natCast_mul]
    show _ < (P : Rat) * 1073741824 + 1
    grind
theorem part_ok {p : UInt64} {ρ : Rat} {u c C : Nat} (hu : u = 2 ^ c) (hc : c ≤ 12) (hC : C ≤ u) (hρ : ρ * (u : Rat) = (C : Rat)) (H : Ap p ρ (100 / 2 ^ 53)) :
    isFinite (partF p u) = true ∧ toInt truncOf (partF p u) = ((C * 1073741824 : Nat) : Int) := by
  have hl := u_le hu hc
  have u0 : 0 < u := by rw [hu]; exact Nat.two_pow_pos _
  have hN : (0 : Rat) < (u : Rat) := natLt u0
  have hN9 : (u : Rat) ≤ 4096 := natLe hl
  have hC9 : (C : Rat) ≤ (u : Rat) := natLe hC
  have hC0 : 0 ≤ (C : Rat) := natLe (Nat.zero_le C)
  unfold partF
  obtain ⟨a1, a2, a3⟩ := H
  have m1 := Rat.mul_nonneg (show 0 ≤ ρ + 100 / 2 ^ 53 - rv p by grind) (Rat.le_of_lt hN)
  have m2 := Rat.mul_nonneg (show 0 ≤ rv p - ρ + 100 / 2 ^ 53 by grind) (Rat.le_of_lt hN)
  have o := ofIntx (n := u) (by lia)
  have o2 := ofIntx (n := 1073741824) (by decide)
  have b1 : rv p * (u : Rat) ≤ (C : Rat) + 100 * 4096 / 2 ^ 53 := by grind
  have b2 : (C : Rat) - 100 * 4096 / 2 ^ 53 ≤ rv p * (u : Rat) := by grind
  clear m1 m2 hρ
  obtain ⟨x1, x2, x3⟩ := mul_ap (q := rv p * (u : Rat)) a1 o.1 (by rw [o.2]) 13 (by decide) (by grind) (by grind)
  generalize Float64.mul p (ofInt (u : Int)) = X2 at *
  generalize rv p * (u : Rat) = Z at *
  obtain ⟨y1, y2, y3⟩ := mul_ap (q := rv X2 * 1073741824) x1 o2.1 (by rw [o2.2]; rfl) 44 (by decide) (by grind) (by grind)
  generalize Float64.mul X2 (ofInt ((1073741824 : Nat) : Int)) = X3 at *
  obtain ⟨w1, w2, w3⟩ := add_ap (q := rv X3 + 1 / 2) y1 conH.1 (by rw [conH.2]) 45 (by decide) (by grind) (by grind)
  refine ⟨fnt_fin w1, trunc_of w1 ?_ ?_⟩
  · rw [Rat.natCast_mul]
    show (C : Rat) * 1073741824 ≤ _
    grind
  · rw [Rat.natCast_mul]
    show _ < (C : Rat) * 1073741824 + 1
    grind
end
end

section
open PySem PySem.W PyProof.Rows PySem.Flt
set_option Elab.async false
set_option maxRecDepth 100000
open PySem.Float64
theorem pos_decode {y : UInt64} (hy : Fnt y) (h0 : 0 < rv y) : ∃ m e, decode y = .fin false m e ∧ m ≠ 0 ∧ 0 < val y := by
  obtain ⟨b, n, f, hy⟩ := hy
  have hvy : 0 < val y := by
    have h9 := Rat.mul_pos h0 KK_pos
    rw [rv_mul] at h9
    exact_mod_cast h9
  have hv := val_eq hy
  have hn : n ≠ 0 := fun h0 => by
    rw [hv, h0, Nat.zero_mul] at hvy
    unfold sgn at hvy
    cases b <;> simp at hvy
  have hb : b = false := by
    cases b
    · rfl
    · rw [hv] at hvy
      unfold sgn at hvy
      simp only [if_true] at hvy
      lia
  subst hb
  exact ⟨n, f, hy, hn, hvy⟩
theorem posU {x U A : Rat} (hU : 0 < U) (h : x * U = A) (hA : 0 < A) : 0 < x := by
  refine Rat.not_le.mp fun hc => ?_
  have := Rat.mul_nonneg (show 0 ≤ -x by grind) (Rat.le_of_lt hU)
  grind
section
variable {r g b u c top mn n : Nat}
theorem sat_eq (T : Tri r g b u c) (S : Spr r g b top mn n) : satF (fr r u) (fr g u) (fr b u) = fr n top := by
  have ht : top < u := S.lt T
  obtain ⟨htop, hmn, hn, n0⟩ := S
  have hl := u_le T.hu T.hc
  unfold satF rngF
  rw [maxF_fr T, minF_fr T, ← htop, ← hmn]
  clear htop hmn
  obtain ⟨s1, s2⟩ := sub_fr T.hu T.hc ht (show mn ≤ top by lia)
  obtain ⟨t1, t2⟩ := frx T.hu T.hc (show top ≤ 2 ^ 13 by lia)
  have hN : (0 : Rat) < (n : Rat) := natLt n0
  have hT : (0 : Rat) < (top : Rat) := natLt (show 0 < top by lia)
  have hU : (0 : Rat) < (u : Rat) := natLt (show 0 < u by lia)
  have hK := KK_pos
  have ea : (top : Rat) - (mn : Rat) = (n : Rat) := by rw [hn, Rat.natCast_add]; grind
  rw [ea] at s2
  generalize Float64.sub (fr top u) (fr mn u) = X at *
  generalize fr top u = Y at *
  obtain ⟨m, e, hx, hm, vx⟩ := pos_decode s1 (posU hU s2 hN)
  obtain ⟨k, f, hy, hk, vy⟩ := pos_decode t1 (posU hU t2 hT)
  have key : n * (val Y).natAbs = top * (val X).natAbs := by
    have h1 : (n : Rat) * (val Y : Rat) = (top : Rat) * (val X : Rat) := by
      rw [← rv_mul, ← rv_mul]
      refine cancelU hU ?_
      rw [← s2, ← t2]
      generalize (u : Rat) = U
      generalize (KK : Rat) = K
      grind
    have h2 : (n : Int) * val Y = (top : Int) * val X := by exact_mod_cast h1
    have h3 : (n : Int) * ((val Y).natAbs : Int) = (top : Int) * ((val X).natAbs : Int) := by
      rw [show ((val Y).natAbs : Int) = val Y from by lia, show ((val X).natAbs : Int) = val X from by lia]
      exact h2
    exact_mod_cast h3
  have R1 := div_right hx hy hk
  rw [show (false != false) = false from rfl] at R1
  have hD : 0 < (val Y).natAbs := by lia
  have R2 : Right (fr n top) false ((val X).natAbs * 2 ^ 1074) (val Y).natAbs := by
    refine ofFrac_right (by lia) ?_ hD
    calc n * 2 ^ 1074 * (val Y).natAbs = n * (val Y).natAbs * 2 ^ 1074 := by ac_rfl
      _ = top * (val X).natAbs * 2 ^ 1074 := by rw [key]
      _ = (val X).natAbs * 2 ^ 1074 * top := by ac_rfl
  refine right_uniq R1 R2 hD (Nat.mul_le_mul ?_ (Nat.pow_le_pow_right (by decide) (by decide)))
  have h4 : n * (val X).natAbs ≤ n * (val Y).natAbs := by
    rw [key]
    exact Nat.mul_le_mul_right _ (by lia)
  exact Nat.le_of_mul_le_mul_left h4 n0
theorem sat_ap (T : Tri r g b u c) (S : Spr r g b top mn n) : ∃ σ : Rat, σ * (top : Rat) = (n : Rat) ∧ 1 / 4096 ≤ σ ∧ σ ≤ 1 ∧ Ap (satF (fr r u) (fr g u) (fr b u)) σ (1 / 2 ^ 53) := by
  have ht : top < u := S.lt T
  obtain ⟨htop, hmn, hn, n0⟩ := S
  have hl := u_le T.hu T.hc
  unfold satF rngF
  rw [maxF_fr T, minF_fr T, ← htop, ← hmn]
  clear htop hmn
  obtain ⟨s1, s2⟩ := sub_fr T.hu T.hc ht (show mn ≤ top by lia)
  obtain ⟨t1, t2⟩ := frx T.hu T.hc (show top ≤ 2 ^ 13 by lia)
  have hN : (1 : Rat) ≤ (n : Rat) := natLe n0
  have hNT : (n : Rat) ≤ (top : Rat) := natLe (by lia)
  have hT9 : (top : Rat) ≤ 4096 := natLe (show top ≤ 4096 by lia)
  have hT : (0 : Rat) < (top : Rat) := natLt (show 0 < top by lia)
  have hU : (0 : Rat) < (u : Rat) := natLt (show 0 < u by lia)
  have ea : (top : Rat) - (mn : Rat) = (n : Rat) := by rw [hn, Rat.natCast_add]; grind
  rw [ea] at s2
  generalize Float64.sub (fr top u) (fr mn u) = X at *
  generalize fr top u = Y at *
  have hq : (n : Rat) / (top : Rat) * (top : Rat) = (n : Rat) := Rat.div_mul_cancel (by grind)
  generalize (n : Rat) / (top : Rat) = σ at *
  have q0 : 1 / 4096 ≤ σ := quo_ge hT hq (by grind)
  have q1 : σ ≤ 1 := quo_le hT hq (by grind)
  refine ⟨σ, hq, q0, q1, (div_ap (q := σ) s1 t1 (posU hU t2 hT) (cancelU hU ?_) 0 (by decide) (by grind) (by grind)).wid (by grind) (by grind)⟩
  rw [s2, ← hq, Rat.mul_assoc, t2]
end
theorem one_ap {x : UInt64} {Y ε : Rat} (H : Ap x Y ε) (hε : ε ≤ 1 / 2) (h1 : -2 ≤ Y) (h2 : Y ≤ 2) : Ap (Float64.sub 0x3ff0000000000000 x) (1 - Y) (ε + 4 / 2 ^ 53) := by
  obtain ⟨f1, f2, f3⟩ := H
  exact (sub_ap (q := 1 - rv x) con1.1 f1 (by rw [con1.2]) 2 (by decide) (by grind) (by grind)).wid (by grind) (by grind)
theorem vmul {v y : UInt64} {V Y ε : Rat} (hv : Fnt v) (eV : rv v = V) (v0 : 0 ≤ V) (v1 : V ≤ 1) (H : Ap y Y ε) (hε : ε ≤ 1 / 2) (h1 : -3 ≤ Y) (h2 : Y ≤ 3) : Ap (Float64.mul v y) (V * Y) (ε + 4 / 2 ^ 53) := by
  obtain ⟨f1, f2, f3⟩ := H
  have a1 := Rat.mul_nonneg v0 (show 0 ≤ Y + ε - rv y by grind)
  have a2 := Rat.mul_nonneg v0 (show 0 ≤ rv y - Y + ε by grind)
  have a3 := Rat.mul_nonneg (show 0 ≤ 1 - V by grind) (show 0 ≤ ε by grind)
  have a4 := Rat.mul_nonneg v0 (show 0 ≤ 4 - rv y by grind)
  have a5 := Rat.mul_nonneg v0 (show 0 ≤ rv y + 4 by grind)
  exact (mul_ap (q := V * rv y) hv f1 (by rw [eV]) 2 (by decide) (by grind) (by grind)).wid (by grind) (by grind)
theorem smul {s f : UInt64} {σ F ε : Rat} (S : Ap s σ (1 / 2 ^ 53)) (s0 : 0 ≤ σ) (s1 : σ ≤ 1) (H : Ap f F ε) (hε : ε ≤ 1 / 2) (h1 : -2 ≤ F) (h2 : F ≤ 2) : Ap (Float64.mul s f) (σ * F) (ε + 7 / 2 ^ 53) := by
  obtain ⟨f1, f2, f3⟩ := H
  obtain ⟨g1, g2, g3⟩ := S
  have b1 := Rat.mul_nonneg (show 0 ≤ σ + 1 / 2 ^ 53 - rv s by grind) (show 0 ≤ 3 - rv f by grind)
  have b2 := Rat.mul_nonneg (show 0 ≤ σ + 1 / 2 ^ 53 - rv s by grind) (show 0 ≤ 3 + rv f by grind)
  have b3 := Rat.mul_nonneg (show 0 ≤ rv s - σ + 1 / 2 ^ 53 by grind) (show 0 ≤ 3 - rv f by grind)
  have b4 := Rat.mul_nonneg (show 0 ≤ rv s - σ + 1 / 2 ^ 53 by grind) (show 0 ≤ 3 + rv f by grind)
  have a1 := Rat.mul_nonneg s0 (show 0 ≤ F + ε - rv f by grind)
  have a2 := Rat.mul_nonneg s0 (show 0 ≤ rv f - F + ε by grind)
  have a3 := Rat.mul_nonneg (show 0 ≤ 1 - σ by grind) (show 0 ≤ ε by grind)
  have a4 := Rat.mul_nonneg s0 (show 0 ≤ 3 - rv f by grind)
  have a5 := Rat.mul_nonneg s0 (show 0 ≤ rv f + 3 by grind)
  have c1 : rv s * rv f ≤ σ * F + ε + 3 / 2 ^ 53 := by grind
  have c2 : σ * F - ε - 3 / 2 ^ 53 ≤ rv s * rv f := by grind
  have c3 : rv s * rv f ≤ 4 := by grind
  have c4 : -4 ≤ rv s * rv f := by grind
  clear a1 a2 a3 a4 a5 b1 b2 b3 b4
  exact (mul_ap (q := rv s * rv f) g1 f1 rfl 2 (by decide) (by grind) (by grind)).wid (by grind) (by grind)
end

section
open PySem PySem.W PyProof.Rows PySem.Flt
set_option Elab.async false
set_option maxRecDepth 100000
set_option maxHeartbeats 4000000
open PySem.Float64
theorem fmod_in {d N : Int} (h0 : 0 ≤ d) (h1 : d < N) : d.fmod N = d := by
  rw [Int.fmod_eq_emod_of_nonneg _ (by lia), Int.emod_eq_of_lt h0 h1]
theorem fmod_be {d N : Int} (h0 : d < 0) (h1 : -N ≤ d) : d.fmod N = d + N := by
  rw [Int.fmod_eq_emod_of_nonneg _ (by lia), ← Int.add_emod_right, Int.emod_eq_of_lt (by lia) (by lia)]
theorem fmod6 {d N : Int} (h0 : -N ≤ d) (h1 : d < N) : (0 ≤ d ∧ d.fmod N = d) ∨ (d < 0 ∧ d.fmod N = d + N) := by
  by_cases h : 0 ≤ d
  · exact .inl ⟨h, fmod_in h h1⟩
  · exact .inr ⟨by lia, fmod_be (by lia) h0⟩
theorem corn_hi {P n k a : Int} (h0 : 0 ≤ a) (h1 : a ≤ 3 * n) (n0 : 0 < n) (e : P - 2 * n * k = a) : cornE P n k = (if n < (if 0 > a - n then 0 else a - n) then n else (if 0 > a - n then 0 else a - n)) := by
  have h : awayE P n k = a := by unfold awayE; rw [e]; exact fmod_in h0 (by lia)
  unfold cornE overE sideE
  rw [h, if_neg (c := 6 * n - a < a) (by lia)]
theorem corn_mid {P n k a : Int} (h0 : 3 * n < a) (h1 : a < 6 * n) (e : P - 2 * n * k = a) : cornE P n k = (if n < (if 0 > 6 * n - a - n then 0 else 6 * n - a - n) then n else (if 0 > 6 * n - a - n then 0 else 6 * n - a - n)) := by
  have h : awayE P n k = a := by unfold awayE; rw [e]; exact fmod_in (by lia) h1
  unfold cornE overE sideE
  rw [h, if_pos (c := 6 * n - a < a) (by lia)]
theorem corn_lo {P n k a : Int} (h0 : 3 * n < a) (h1 : a < 6 * n) (e : P - 2 * n * k = a - 6 * n) : cornE P n k = (if n < (if 0 > 6 * n - a - n then 0 else 6 * n - a - n) then n else (if 0 > 6 * n - a - n then 0 else 6 * n - a - n)) := by
  have h : awayE P n k = a := by unfold awayE; rw [e, fmod_be (by lia) (by lia)]; lia
  unfold cornE overE sideE
  rw [h, if_pos (c := 6 * n - a < a) (by lia)]
theorem corn_lo3 {P n k a : Int} (h0 : 2 * n ≤ a) (h1 : a ≤ 3 * n) (n0 : 0 < n) (e : P - 2 * n * k = a - 6 * n) : cornE P n k = n := by
  have h : awayE P n k = a := by unfold awayE; rw [e, fmod_be (by lia) (by lia)]; lia
  unfold cornE overE sideE
  rw [h, if_neg (c := 6 * n - a < a) (by lia), if_neg (c := 0 > a - n) (by lia)]
  split <;> lia
theorem cl0 {x n : Int} (h : x ≤ n) (n0 : 0 < n) : (if n < (if 0 > x - n then 0 else x - n) then n else (if 0 > x - n then 0 else x - n)) = 0 := by
  by_cases c : 0 > x - n
  · rw [if_pos c, if_neg (by lia)]
  · rw [if_neg c, if_neg (by lia)]; lia
theorem cl1 {x n : Int} (h : n ≤ x) (h2 : x ≤ 2 * n) : (if n < (if 0 > x - n then 0 else x - n) then n else (if 0 > x - n then 0 else x - n)) = x - n := by
  rw [if_neg (by lia : ¬ 0 > x - n), if_neg (by lia)]
theorem cl2 {x n : Int} (h : 2 * n ≤ x) (n0 : 0 < n) : (if n < (if 0 > x - n then 0 else x - n) then n else (if 0 > x - n then 0 else x - n)) = n := by
  rw [if_neg (by lia : ¬ 0 > x - n)]
  split <;> lia
section
variable {P n : Int}
/-- the three corners, sector by sector -/
theorem sec0 (n0 : 0 < n) (h0 : 0 ≤ P) (h : P ≤ n) : cornE P n 0 = 0 ∧ cornE P n 1 = n - P ∧ cornE P n 2 = n := by
  refine ⟨by rw [corn_hi (a := P) h0 (by lia) n0 (by lia), cl0 h n0], ?_, corn_lo3 (a := P + 2 * n) (by lia) (by lia) n0 (by lia)⟩
  rw [corn_lo (a := P + 4 * n) (by lia) (by lia) (by lia), cl1 (by lia) (by lia)]; lia
theorem sec1 (n0 : 0 < n) (h0 : n ≤ P) (h : P ≤ 2 * n) : cornE P n 0 = P - n ∧ cornE P n 1 = 0 ∧ cornE P n 2 = n := by
  refine ⟨by rw [corn_hi (a := P) (by lia) (by lia) n0 (by lia), cl1 h0 h], ?_, ?_⟩
  · by_cases e : P < 2 * n
    · rw [corn_lo (a := P + 4 * n) (by lia) (by lia) (by lia), cl0 (by lia) n0]
    · rw [corn_hi (a := P - 2 * n) (by lia) (by lia) n0 (by lia), cl0 (by lia) n0]
  · by_cases e : P ≤ n
    · exact corn_lo3 (a := P + 2 * n) (by lia) (by lia) n0 (by lia)
    · rw [corn_lo (a := P + 2 * n) (by lia) (by lia) (by lia), cl2 (by lia) n0]
theorem sec2 (n0 : 0 < n) (h0 : 2 * n ≤ P) (h : P ≤ 3 * n) : cornE P n 0 = n ∧ cornE P n 1 = 0 ∧ cornE P n 2 = 3 * n - P := by
  refine ⟨by rw [corn_hi (a := P) (by lia) h n0 (by lia), cl2 h0 n0], by rw [corn_hi (a := P - 2 * n) (by lia) (by lia) n0 (by lia), cl0 (by lia) n0], ?_⟩
  rw [corn_lo (a := P + 2 * n) (by lia) (by lia) (by lia), cl1 (by lia) (by lia)]; lia
theorem sec3 (n0 : 0 < n) (h0 : 3 * n ≤ P) (h : P ≤ 4 * n) : cornE P n 0 = n ∧ cornE P n 1 = P - 3 * n ∧ cornE P n 2 = 0 := by
  refine ⟨?_, ?_, ?_⟩
  · by_cases e : P ≤ 3 * n
    · rw [corn_hi (a := P) (by lia) e n0 (by lia), cl2 (by lia) n0]
    · rw [corn_mid (a := P) (by lia) (by lia) (by lia), cl2 (by lia) n0]
  · rw [corn_hi (a := P - 2 * n) (by lia) (by lia) n0 (by lia), cl1 (by lia) (by lia)]; lia
  · by_cases e : P < 4 * n
    · rw [corn_lo (a := P + 2 * n) (by lia) (by lia) (by lia), cl0 (by lia) n0]
    · rw [corn_hi (a := P - 4 * n) (by lia) (by lia) n0 (by lia), cl0 (by lia) n0]
theorem sec4 (n0 : 0 < n) (h0 : 4 * n ≤ P) (h : P ≤ 5 * n) : cornE P n 0 = 5 * n - P ∧ cornE P n 1 = n ∧ cornE P n 2 = 0 := by
  refine ⟨?_, ?_, by rw [corn_hi (a := P - 4 * n) (by lia) (by lia) n0 (by lia), cl0 (by lia) n0]⟩
  · rw [corn_mid (a := P) (by lia) (by lia) (by lia), cl1 (by lia) (by lia)]; lia
  · rw [corn_hi (a := P - 2 * n) (by lia) (by lia) n0 (by lia), cl2 (by lia) n0]
theorem sec5 (n0 : 0 < n) (h0 : 5 * n ≤ P) (h : P < 6 * n) : cornE P n 0 = 0 ∧ cornE P n 1 = n ∧ cornE P n 2 = P - 5 * n := by
  refine ⟨by rw [corn_mid (a := P) (by lia) h (by lia), cl0 (by lia) n0], ?_, ?_⟩
  · by_cases e : P ≤ 5 * n
    · rw [corn_hi (a := P - 2 * n) (by lia) (by lia) n0 (by lia), cl2 (by lia) n0]
    · rw [corn_mid (a := P - 2 * n) (by lia) (by lia) (by lia), cl2 (by lia) n0]
  · rw [corn_hi (a := P - 4 * n) (by lia) (by lia) n0 (by lia), cl1 (by lia) (by lia)]; lia
variable {r g b top mn : Int}
theorem cas1 (n0 : 0 < n) (h1 : r = top) (h2 : b ≤ g) (h3 : P + b = g) (hn : top = b + n) (hg : g ≤ top) : P < 6 * n ∧ r = top - cornE P n 0 ∧ g = top - cornE P n 1 ∧ b = top - cornE P n 2 := by
  obtain ⟨a, b, c⟩ := sec0 (P := P) n0 (by lia) (by lia)
  rw [a, b, c]; clear a b c; lia
theorem cas2 (n0 : 0 < n) (h1 : r = top) (h2 : g < b) (h3 : P + b = 6 * n + g) (hn : top = g + n) (hb : b ≤ top) : P < 6 * n ∧ r = top - cornE P n 0 ∧ g = top - cornE P n 1 ∧ b = top - cornE P n 2 := by
  obtain ⟨a, b, c⟩ := sec5 (P := P) n0 (by lia) (by lia)
  rw [a, b, c]; clear a b c; lia
theorem cas3 (n0 : 0 < n) (h1 : g = top) (h3 : P + r = 2 * n + b) (hn : top = b + n) (hb : b ≤ r) (hr : r ≤ top) : P < 6 * n ∧ r = top - cornE P n 0 ∧ g = top - cornE P n 1 ∧ b = top - cornE P n 2 := by
  obtain ⟨a, b, c⟩ := sec1 (P := P) n0 (by lia) (by lia)
  rw [a, b, c]; clear a b c; lia
theorem cas4 (n0 : 0 < n) (h1 : g = top) (h3 : P + r = 2 * n + b) (hn : top = r + n) (hb : r ≤ b) (hr : b ≤ top) : P < 6 * n ∧ r = top - cornE P n 0 ∧ g = top - cornE P n 1 ∧ b = top - cornE P n 2 := by
  obtain ⟨a, b, c⟩ := sec2 (P := P) n0 (by lia) (by lia)
  rw [a, b, c]; clear a b c; lia
theorem cas5 (n0 : 0 < n) (h1 : b = top) (h3 : P + g = 4 * n + r) (hn : top = r + n) (hb : r ≤ g) (hr : g ≤ top) : P < 6 * n ∧ r = top - cornE P n 0 ∧ g = top - cornE P n 1 ∧ b = top - cornE P n 2 := by
  obtain ⟨a, b, c⟩ := sec3 (P := P) n0 (by lia) (by lia)
  rw [a, b, c]; clear a b c; lia
theorem cas6 (n0 : 0 < n) (h1 : b = top) (h3 : P + g = 4 * n + r) (hn : top = g + n) (hb : g ≤ r) (hr : r ≤ top) : P < 6 * n ∧ r = top - cornE P n 0 ∧ g = top - cornE P n 1 ∧ b = top - cornE P n 2 := by
  obtain ⟨a, b, c⟩ := sec4 (P := P) n0 (by lia) (by lia)
  rw [a, b, c]; clear a b c; lia
end
section
variable {r g b u c top mn n P : Nat}
theorem cornersZ (S : Spr r g b top mn n) (hP : PlaceOf r g b top n P) : (P : Int) < 6 * n ∧ (r : Int) = top - cornE P n 0 ∧ (g : Int) = top - cornE P n 1 ∧ (b : Int) = top - cornE P n 2 := by
  obtain ⟨⟨hrt, hgt, hbt⟩, ⟨hrm, hgm, hbm⟩, t3, m3⟩ := S.facts
  have hn := S.hn
  have n0 : (0 : Int) < n := Int.ofNat_lt.mpr S.n0
  clear S
  rcases hP with ⟨h1, h2, h3⟩ | ⟨h1, h2, h3⟩ | ⟨h1, h2, h3⟩ | ⟨h1, h2, h3⟩
  · obtain rfl : b = mn := by clear t3; lia
    exact cas1 n0 (by rw [h1]) (Int.ofNat_le.mpr h2) (by rw [← h3]; rfl) (by rw [hn]; rfl) (Int.ofNat_le.mpr hgt)
  · obtain rfl : g = mn := by clear t3; lia
    exact cas2 n0 (by rw [h1]) (Int.ofNat_lt.mpr h2) (by clear t3 m3; lia) (by rw [hn]; rfl) (Int.ofNat_le.mpr hbt)
  · rcases m3 with m3 | m3 | m3
    · subst m3
      exact cas4 n0 (by rw [h2]) (by clear t3; lia) (by rw [hn]; rfl) (Int.ofNat_le.mpr hbm) (Int.ofNat_le.mpr hbt)
    · clear t3; lia
    · subst m3
      exact cas3 n0 (by rw [h2]) (by clear t3; lia) (by rw [hn]; rfl) (Int.ofNat_le.mpr hrm) (Int.ofNat_le.mpr hrt)
  · obtain rfl : b = top := by rcases t3 with t | t | t; exact absurd t h1; exact absurd t h2; exact t
    rcases m3 with m3 | m3 | m3
    · subst m3
      exact cas5 n0 rfl (by clear t3; lia) (by rw [hn]; rfl) (Int.ofNat_le.mpr hgm) (Int.ofNat_le.mpr hgt)
    · subst m3
      exact cas6 n0 rfl (by clear t3; lia) (by rw [hn]; rfl) (Int.ofNat_le.mpr hrm) (Int.ofNat_le.mpr hrt)
    · clear t3; lia
theorem corners (S : Spr r g b top mn n) (hP : PlaceOf r g b top n P) : P < 6 * n ∧ (r : Int) = top - cornE P n 0 ∧ (g : Int) = top - cornE P n 1 ∧ (b : Int) = top - cornE P n 2 := by
  obtain ⟨h, t⟩ := cornersZ S hP
  exact ⟨by lia, t⟩
end
theorem floor6 {X : Rat} (h0 : 0 ≤ X) (h6 : X < 6) : ∃ i : Nat, i < 6 ∧ (i : Rat) ≤ X ∧ X < (i : Rat) + 1 := by
  by_cases h1 : X < 1
  · exact ⟨0, by decide, h0, by grind⟩
  by_cases h2 : X < 2
  · exact ⟨1, by decide, Rat.not_lt.mp h1, by show X < (1 : Rat) + 1; grind⟩
  by_cases h3 : X < 3
  · exact ⟨2, by decide, Rat.not_lt.mp h2, by show X < (2 : Rat) + 1; grind⟩
  by_cases h4 : X < 4
  · exact ⟨3, by decide, Rat.not_lt.mp h3, by show X < (3 : Rat) + 1; grind⟩
  by_cases h5 : X < 5
  · exact ⟨4, by decide, Rat.not_lt.mp h4, by show X < (4 : Rat) + 1; grind⟩
  · exact ⟨5, by decide, Rat.not_lt.mp h5, by show X < (5 : Rat) + 1; grind⟩
end

section
open PySem PySem.W PyProof.Rows PySem.Flt
set_option Elab.async false
set_option maxRecDepth 100000
set_option maxHeartbeats 4000000
open PySem.Float64
section
variable {r g b u c top mn n P : Nat}
/-- where on the ring the rounded hue lies -/
theorem between {X φ : Rat} {n P i : Nat} (hφ : φ * (n : Rat) = (P : Rat)) (n9 : n ≤ 4096) (n0 : 0 < n) (h1 : φ - 38 / 2 ^ 53 ≤ X) (h2 : X ≤ φ + 38 / 2 ^ 53) (h3 : (i : Rat) ≤ X) (h4 : X < (i : Rat) + 1) : i * n ≤ P ∧ P ≤ (i + 1) * n := by
  have hN : (0 : Rat) < (n : Rat) := natLt n0
  have hN9 : (n : Rat) ≤ 4096 := natLe n9
  have m1 := Rat.mul_nonneg (show 0 ≤ φ + 38 / 2 ^ 53 - (i : Rat) by grind) (Rat.le_of_lt hN)
  have m2 := Rat.mul_nonneg (show 0 ≤ (i : Rat) + 1 - φ + 38 / 2 ^ 53 by grind) (Rat.le_of_lt hN)
  constructor
  · have h : (i : Rat) * (n : Rat) < (P : Rat) + 1 := by grind
    have h' : i * n < P + 1 := by exact_mod_cast h
    lia
  · have h : (P : Rat) < ((i : Rat) + 1) * (n : Rat) + 1 := by grind
    have h' : P < (i + 1) * n + 1 := by exact_mod_cast h
    lia
theorem frac_ap {hue : UInt64} {φ : Rat} {i : Nat} (h6 : Ap (Float64.mul hue 0x4018000000000000) φ (38 / 2 ^ 53)) (hi : i < 6) (h3 : (i : Rat) ≤ rv (Float64.mul hue 0x4018000000000000)) (h4 : rv (Float64.mul hue 0x4018000000000000) < (i : Rat) + 1) :
    Ap (fracF hue (i : Int)) (φ - (i : Rat)) (39 / 2 ^ 53) ∧ -1 ≤ φ - (i : Rat) ∧ φ - (i : Rat) ≤ 2 := by
  obtain ⟨f1, f2, f3⟩ := h6
  have o := ofIntx (n := i) (by lia)
  unfold fracF
  refine ⟨(sub_ap (q := rv (Float64.mul hue 0x4018000000000000) - (i : Rat)) f1 o.1 (by rw [o.2]) 0 (by decide) (by grind) (by grind)).wid (by grind) (by grind), by grind, by grind⟩
theorem bP_ap {v s : UInt64} {V σ : Rat} (hv : Fnt v) (eV : rv v = V) (v0 : 0 ≤ V) (v1 : V ≤ 1) (Sa : Ap s σ (1 / 2 ^ 53)) (s0 : 0 ≤ σ) (s1 : σ ≤ 1) : Ap (bP v s) (V * (1 - σ)) (100 / 2 ^ 53) :=
  (vmul hv eV v0 v1 (one_ap Sa (by decide +kernel) (by grind) (by grind)) (by decide +kernel) (by grind) (by grind)).wid (by grind) (by grind)
theorem bQ_ap {v s f : UInt64} {V σ F : Rat} (hv : Fnt v) (eV : rv v = V) (v0 : 0 ≤ V) (v1 : V ≤ 1) (Sa : Ap s σ (1 / 2 ^ 53)) (s0 : 0 ≤ σ) (s1 : σ ≤ 1) (Fa : Ap f F (43 / 2 ^ 53)) (f0 : -2 ≤ F) (f1 : F ≤ 2) : Ap (bQ v s f) (V * (1 - σ * F)) (100 / 2 ^ 53) := by
  have a1 := Rat.mul_nonneg s0 (show 0 ≤ 2 - F by grind)
  have a2 := Rat.mul_nonneg s0 (show 0 ≤ F + 2 by grind)
  have M := smul Sa s0 s1 Fa (by decide +kernel) f0 f1
  have O := one_ap M (by decide +kernel) (by grind) (by grind)
  exact (vmul hv eV v0 v1 O (by decide +kernel) (by grind) (by grind)).wid (by grind) (by grind)
theorem bT_ap {v s f : UInt64} {V σ F : Rat} (hv : Fnt v) (eV : rv v = V) (v0 : 0 ≤ V) (v1 : V ≤ 1) (Sa : Ap s σ (1 / 2 ^ 53)) (s0 : 0 ≤ σ) (s1 : σ ≤ 1) (Fa : Ap f F (39 / 2 ^ 53)) (f0 : -1 ≤ F) (f1 : F ≤ 2) : Ap (bT v s f) (V * (1 - σ * (1 - F))) (100 / 2 ^ 53) :=
  bQ_ap hv eV v0 v1 Sa s0 s1 ((one_ap Fa (by decide +kernel) (by grind) (by grind)).wid (by grind) (by grind)) (by grind) (by grind)
theorem not_of_false {x : Bool} (h : x = false) : ¬ x = true := by rw [h]; decide
theorem bne_of {x y : Option Ordering} (h : (x == y) = true) : (x != y) = false := by unfold bne; rw [h]; rfl
section
variable {x y z : Int}
theorem eqs0 (h : x = 0 ∧ y = n - P ∧ z = n) (e0 : (r : Int) = top - x) (e1 : (g : Int) = top - y) (e2 : (b : Int) = top - z) (hn : top = mn + n) : r = top ∧ b = mn ∧ g + n + 0 * n = top + P := by lia
theorem eqs1 (h : x = P - n ∧ y = 0 ∧ z = n) (e0 : (r : Int) = top - x) (e1 : (g : Int) = top - y) (e2 : (b : Int) = top - z) (hn : top = mn + n) : g = top ∧ b = mn ∧ r + P = top + 1 * n := by lia
theorem eqs2 (h : x = n ∧ y = 0 ∧ z = 3 * n - P) (e0 : (r : Int) = top - x) (e1 : (g : Int) = top - y) (e2 : (b : Int) = top - z) (hn : top = mn + n) : g = top ∧ r = mn ∧ b + n + 2 * n = top + P := by lia
theorem eqs3 (h : x = n ∧ y = P - 3 * n ∧ z = 0) (e0 : (r : Int) = top - x) (e1 : (g : Int) = top - y) (e2 : (b : Int) = top - z) (hn : top = mn + n) : b = top ∧ r = mn ∧ g + P = top + 3 * n := by lia
theorem eqs4 (h : x = 5 * n - P ∧ y = n ∧ z = 0) (e0 : (r : Int) = top - x) (e1 : (g : Int) = top - y) (e2 : (b : Int) = top - z) (hn : top = mn + n) : b = top ∧ g = mn ∧ r + n + 4 * n = top + P := by lia
theorem eqs5 (h : x = 0 ∧ y = n ∧ z = P - 5 * n) (e0 : (r : Int) = top - x) (e1 : (g : Int) = top - y) (e2 : (b : Int) = top - z) (hn : top = mn + n) : r = top ∧ g = mn ∧ b + P = top + 5 * n := by lia
end
theorem colour (T : Tri r g b u c) (S : Spr r g b top mn n) : ∃ place i, Col r g b u top mn n place i := by
  obtain ⟨P, φ, hφ, φ0, φ6, φ1, H, Hz, hP⟩ := hue_ap T S
  obtain ⟨σ, hσ, σ0, σ1, Sa⟩ := sat_ap T S
  obtain ⟨p6, e0, e1, e2⟩ := corners S hP
  have se := sat_eq T S
  have mx := maxF_fr T
  have mi := minF_fr T
  have ht : top < u := S.lt T
  obtain ⟨⟨hrt, hgt, hbt⟩, -, -, -⟩ := S.facts
  obtain ⟨htop, hmn, hn, n0⟩ := S
  rw [← htop] at mx
  rw [← hmn] at mi
  have hl := u_le T.hu T.hc
  have hmu : mn < u := by lia
  have n9 : n ≤ 4096 := by lia
  have H0 : 0 ≤ rv (hueF (fr r u) (fr g u) (fr b u)) := by
    by_cases h : P = 0
    · rw [Hz h]; decide
    · have h1 := φ1 h
      obtain ⟨_, h2, _⟩ := H
      grind
  have H1 : rv (hueF (fr r u) (fr g u) (fr b u)) < 1 := by
    obtain ⟨_, _, h2⟩ := H
    grind
  have h6 := h6_ap H con6 φ0 (by grind)
  have X0 : 0 ≤ rv (Float64.mul (hueF (fr r u) (fr g u) (fr b u)) 0x4018000000000000) := by
    by_cases h : P = 0
    · rw [(mul_zero H.1 con6.1 (Hz h)).2]; decide
    · have h1 := φ1 h
      obtain ⟨_, h2, _⟩ := h6
      grind
  obtain ⟨i, i6, i1, i2⟩ := floor6 X0 (by obtain ⟨_, _, h2⟩ := h6; grind)
  obtain ⟨F, F1, F2⟩ := frac_ap h6 i6 i1 i2
  obtain ⟨b1, b2⟩ := between hφ n9 n0 h6.2.1 h6.2.2 i1 i2
  obtain ⟨V1, V2⟩ := frx T.hu T.hc (show top ≤ 2 ^ 13 by lia)
  have hU : (0 : Rat) < (u : Rat) := natLt (show 0 < u by lia)
  have v0 : 0 ≤ rv (fr top u) := quo_ge hU V2 (by rw [Rat.zero_mul]; exact natLe (Nat.zero_le _))
  have v1 : rv (fr top u) ≤ 1 := quo_le hU V2 (by rw [Rat.one_mul]; exact natLe (show top ≤ u by lia))
  have hT : (0 : Rat) < (top : Rat) := natLt (show 0 < top by lia)
  have ea : (top : Rat) = (mn : Rat) + (n : Rat) := by rw [hn, Rat.natCast_add]
  have σ9 : 0 ≤ σ := by grind
  have vs : rv (fr top u) * σ * (u : Rat) = (n : Rat) := by rw [← hσ, ← V2]; grind
  have pV := part_ok T.hu T.hc (show top ≤ u by lia) V2 (show Ap (fr top u) (rv (fr top u)) (100 / 2 ^ 53) from ⟨V1, by grind, by grind⟩)
  have pP := part_ok (ρ := rv (fr top u) * (1 - σ)) T.hu T.hc (show mn ≤ u by lia) (by grind) (bP_ap V1 rfl v0 v1 Sa σ9 σ1)
  have pQ := fun (C : Nat) (hC : C ≤ u) (e : (C : Rat) + (P : Rat) = (top : Rat) + (i : Rat) * (n : Rat)) => part_ok (C := C) (ρ := rv (fr top u) * (1 - σ * (φ - (i : Rat)))) T.hu T.hc hC (by grind) (bQ_ap V1 rfl v0 v1 Sa σ9 σ1 (F.wid (by grind) (by grind)) (by grind) F2)
  have pT := fun (C : Nat) (hC : C ≤ u) (e : (C : Rat) + (n : Rat) + (i : Rat) * (n : Rat) = (top : Rat) + (P : Rat)) => part_ok (C := C) (ρ := rv (fr top u) * (1 - σ * (1 - (φ - (i : Rat))))) T.hu T.hc hC (by grind) (bT_ap V1 rfl v0 v1 Sa σ9 σ1 F F1 F2)
  have pQ' := fun (C : Nat) (hC : C ≤ u) (e : C + P = top + i * n) => pQ C hC (by exact_mod_cast e)
  have pT' := fun (C : Nat) (hC : C ≤ u) (e : C + n + i * n = top + P) => pT C hC (by exact_mod_cast e)
  obtain ⟨d1, d2⟩ := near_ok hφ n9 n0 φ0 (by grind) H
  clear pQ pT φ1 Hz F1 F2 F hσ vs φ6 φ0 hφ
  have parts : (isFinite (partF (backF (hueF (fr r u) (fr g u) (fr b u)) (satF (fr r u) (fr g u) (fr b u)) (fr top u) i).1 u) = true ∧ toInt truncOf (partF (backF (hueF (fr r u) (fr g u) (fr b u)) (satF (fr r u) (fr g u) (fr b u)) (fr top u) i).1 u) = ((r * 1073741824 : Nat) : Int)) ∧
      (isFinite (partF (backF (hueF (fr r u) (fr g u) (fr b u)) (satF (fr r u) (fr g u) (fr b u)) (fr top u) i).2.1 u) = true ∧ toInt truncOf (partF (backF (hueF (fr r u) (fr g u) (fr b u)) (satF (fr r u) (fr g u) (fr b u)) (fr top u) i).2.1 u) = ((g * 1073741824 : Nat) : Int)) ∧
      (isFinite (partF (backF (hueF (fr r u) (fr g u) (fr b u)) (satF (fr r u) (fr g u) (fr b u)) (fr top u) i).2.2 u) = true ∧ toInt truncOf (partF (backF (hueF (fr r u) (fr g u) (fr b u)) (satF (fr r u) (fr g u) (fr b u)) (fr top u) i).2.2 u) = ((b * 1073741824 : Nat) : Int)) := by
    clear d1 d2 X0 h6 i1 i2 H0 H1 H se mx mi htop hmn hP Sa σ0 σ1 V1 V2 v0 v1 hU hT ea σ9
    have z0 : (0 : Int) < n := Int.ofNat_lt.mpr n0
    have i9 : i = 0 ∨ i = 1 ∨ i = 2 ∨ i = 3 ∨ i = 4 ∨ i = 5 := by lia
    rcases i9 with rfl | rfl | rfl | rfl | rfl | rfl
    · have h := eqs0 (sec0 z0 (Int.natCast_nonneg _) (by lia)) e0 e1 e2 hn
      exact ⟨h.1 ▸ pV, pT' g (by lia) h.2.2, h.2.1 ▸ pP⟩
    · have h := eqs1 (sec1 z0 (by lia) (by lia)) e0 e1 e2 hn
      exact ⟨pQ' r (by lia) h.2.2, h.1 ▸ pV, h.2.1 ▸ pP⟩
    · have h := eqs2 (sec2 z0 (by lia) (by lia)) e0 e1 e2 hn
      exact ⟨h.2.1 ▸ pP, h.1 ▸ pV, pT' b (by lia) h.2.2⟩
    · have h := eqs3 (sec3 z0 (by lia) (by lia)) e0 e1 e2 hn
      exact ⟨h.2.1 ▸ pP, pQ' g (by lia) h.2.2, h.1 ▸ pV⟩
    · have h := eqs4 (sec4 z0 (by lia) (by lia)) e0 e1 e2 hn
      exact ⟨pT' r (by lia) h.2.2, h.2.1 ▸ pP, h.1 ▸ pV⟩
    · have h := eqs5 (sec5 z0 (by lia) (by lia)) e0 e1 e2 hn
      exact ⟨h.1 ▸ pV, h.2.1 ▸ pP, pQ' b (by lia) h.2.2⟩
  obtain ⟨⟨k1, l1⟩, ⟨k2, l2⟩, ⟨k3, l3⟩⟩ := parts
  clear pV pP pQ' pT'
  have fin : ∀ a, a < u → ¬ isInf (fr a u) = true := fun a ha => not_of_false (fnt_inf (frx T.hu T.hc (show a ≤ 2 ^ 13 by lia)).1)
  obtain ⟨s1, s2⟩ := sub_fr T.hu T.hc ht (show mn ≤ top by lia)
  have hN : (0 : Rat) < (n : Rat) := natLt n0
  have sp : 0 < rv (Float64.sub (fr top u) (fr mn u)) := posU hU s2 (by grind)
  have vp : 0 < rv (fr top u) := posU hU V2 hT
  have so : 0 < rv (satF (fr r u) (fr g u) (fr b u)) := by obtain ⟨_, h, _⟩ := Sa; grind
  have sf := Sa.1
  have hf := H.1
  refine ⟨P, i, { u0 := by lia, u40 := by lia, n40 := by lia, top0 := by lia, htop := htop, hmn := hmn, hn := hn, n0 := n0, f1 := fin r T.hr, f2 := fin g T.hg, f3 := fin b T.hb, f4 := fin top ht, f5 := ?f5, hE := ?hE, hM := ?hM, hR := ?hR, c1 := ?c1, c2 := ?c2, c3 := ?c3, c4 := ?c4, d1 := d1, d2 := d2, e0 := e0, e1 := e1, e2 := e2, i6 := i6, g1 := fnt_nan h6.1, g2 := fnt_inf h6.1, g3 := trunc_of h6.1 i1 i2, g4 := ?g4, k1 := ?k1, k2 := ?k2, k3 := ?k3, l1 := ?l1, l2 := ?l2, l3 := ?l3 }⟩
  case f5 => rw [← se]; exact not_of_false (fnt_inf sf)
  case hE => rw [mx, mi, cmpE_fr T.hu T.hc hmu ht]; exact decide_eq_false (by lia)
  case hM => rw [mx]; exact not_of_false (fnt_nz V1 (by grind))
  case hR => rw [mx, mi]; exact not_of_false (fnt_nz s1 (by grind))
  case c1 => rw [mx]; exact bne_of (by rw [cmpE_fr T.hu T.hc ht ht]; exact decide_eq_true rfl)
  case c2 => exact bne_of (by rw [← se, cmp_eq sf sf]; exact decide_eq_true rfl)
  case c3 =>
    rw [cmp_lt con0.1 hf, cmp_eq con0.1 hf, con0.2, Bool.or_eq_true, decide_eq_true_eq, decide_eq_true_eq]
    rcases Rat.le_iff_lt_or_eq.mp H0 with h | h
    · exact .inl h
    · exact .inr h
  case c4 => rw [cmp_lt hf con1.1, con1.2]; exact decide_eq_true H1
  case g4 => rw [cmp_eq sf con0.1, con0.2]; exact decide_eq_false (by grind)
  case k1 => rw [mx]; exact k1
  case k2 => rw [mx]; exact k2
  case k3 => rw [mx]; exact k3
  case l1 => rw [mx]; exact l1
  case l2 => rw [mx]; exact l2
  case l3 => rw [mx]; exact l3
theorem grey (hu : u = 2 ^ c) (hc : c ≤ 12) (hr : r < u) : Gry r u := by
  have hl := u_le hu hc
  have T : Tri r r r u c := ⟨hu, hc, hr, hr, hr⟩
  have mx := maxF_fr T
  have mi := minF_fr T
  rw [show max (max r r) r = r from by lia] at mx
  rw [show min (min r r) r = r from by lia] at mi
  obtain ⟨V1, V2⟩ := frx hu hc (show r ≤ 2 ^ 13 by lia)
  have pV := part_ok hu hc (show r ≤ u by lia) V2 (show Ap (fr r u) (rv (fr r u)) (100 / 2 ^ 53) from ⟨V1, by grind, by grind⟩)
  refine { u0 := by lia, u40 := by lia, f1 := not_of_false (fnt_inf V1), hE := ?_, c1 := ?_, k1 := ?_, l1 := ?_ }
  · rw [mx, mi, cmpE_fr hu hc hr hr]; exact decide_eq_true rfl
  · rw [mx]; exact bne_of (by rw [cmpE_fr hu hc hr hr]; exact decide_eq_true rfl)
  · rw [mx]; exact pV.1
  · rw [mx]; exact pV.2
theorem agree_any {w mean mg mb news} {lp : Addr} {tr tg tb tu : Tok} {nn : Nat} (hu : u = 2 ^ c) (hc : c ≤ 12) (hr : r < u) (hg : g < u) (hb : b < u) :
    Con0 w mean mg mb 103 2 100 [.ref lp, .int (u : Int) tu] ((lp, listOf #[.int (r : Int) tr, .int (g : Int) tg, .int (b : Int) tb] nn) :: news) (fun _ => .bool true) := by
  by_cases h : r = g ∧ g = b
  · obtain ⟨rfl, rfl⟩ := h
    exact agreeG (grey hu hc hr)
  · have l1 : r ≤ max (max r g) b := Nat.le_trans (Nat.le_max_left r g) (Nat.le_max_left _ b)
    have l2 : g ≤ max (max r g) b := Nat.le_trans (Nat.le_max_right r g) (Nat.le_max_left _ b)
    have l3 : b ≤ max (max r g) b := Nat.le_max_right _ b
    have m1 : min (min r g) b ≤ r := Nat.le_trans (Nat.min_le_left _ b) (Nat.min_le_left r g)
    have m2 : min (min r g) b ≤ g := Nat.le_trans (Nat.min_le_left _ b) (Nat.min_le_right r g)
    have m3 : min (min r g) b ≤ b := Nat.min_le_right _ b
    have hlt : min (min r g) b < max (max r g) b := by
      generalize max (max r g) b = A at *
      generalize min (min r g) b = B at *
      lia
    obtain ⟨place, i, C⟩ := colour (top := max (max r g) b) (mn := min (min r g) b) (n := max (max r g) b - min (min r g) b) ⟨hu, hc, hr, hg, hb⟩ ⟨rfl, rfl, (Nat.add_sub_of_le (Nat.le_of_lt hlt)).symm, Nat.sub_pos_of_lt hlt⟩
    exact agreeC C
end
end

section
open PySem PySem.W PyProof.Rows PySem.Spec PySem.Calls
set_option Elab.async false
set_option maxRecDepth 100000
set_option maxHeartbeats 2000000
theorem offTri : True := by
  w_top off
  k_with_none
  exact trivial
open LCg
section
variable {prog : Program} {w : World} {A : Around} {E : Value → Shared → Prop} {s : Shared} {h₀ : Heap} {L : Addr} {m : Str → Option Value} {env : Env}
/-- what is asked of the source of a comprehension that unpacks three names: a list of the ledger's that holds triples of the ledger's, an element that keeps the ledger -/
def TriSrc (prog : Program) (w : World) (A : Around) (h₀ : Heap) (L : Addr) (m : Str → Option Value) (env : Env) (elt : PySem.Expr) (x x₂ x₃ : Str) (scope : Scope) (cl : List (Str × Addr)) (Q : Value → Shared → Prop) (xv : Value) (s₁ : Shared) : Prop :=
  ∃ (ax : Addr) (its : Array Value) (nn : Nat) (news : List (Addr × Obj)) (V : Nat → Value → Value → Value → Prop) (R : Nat → Value → Prop),
    xv = .ref ax ∧ A.handled = none ∧ Fr h₀ L s₁.heap m ∧ News h₀ L s₁.heap news ∧ (ax, listOf its nn) ∈ news ∧ its.size ≤ sizeLine ∧
    (∀ i v, its[i]? = some v → ∃ t a b c n, v = .ref t ∧ (t, tupO #[a, b, c] n) ∈ news ∧ V i a b c) ∧
    (∀ i a b c I oI C oC D m₂ h tk (E' : Value → Shared → Prop) ys (Q' : Value → Shared → Prop), V i a b c → NsObj oC m₂ → m₂ x = some a → m₂ x₂ = some b → m₂ x₃ = some c → Fr h₀ L h m → News h₀ L h ((I, oI) :: (C, oC) :: (D, lst ys) :: news) →
      (∀ y h' tk', R i y → Fr h₀ L h' m → News h₀ L h' ((I, oI) :: (C, oC) :: (D, lst ys) :: news) → Q' y { s₁ with heap := h', toks := tk' }) →
      wpAny (model prog w) A (eval elt (compEnvC scope cl C env)) Q' E' { s₁ with heap := h, toks := tk }) ∧
    (∀ ys : List Value, ys.length = its.size → (∀ j y, ys[j]? = some y → R j y) → ∀ D h tk, Fr h₀ L h m → News h₀ L h ((D, lst ys) :: news) → (∀ p ∈ news, p.1 ≠ D) → Q (.ref D) { s₁ with heap := h, toks := tk })

theorem comp_tri {elt iter : PySem.Expr} {x x₂ x₃ : Str} {px px₂ px₃ tp : Pos} {kk} {scope : Scope} {cl : List (Str × Addr)} {pos : Pos} {Q : Value → Shared → Prop} (_F₀ : Fr h₀ L s.heap m)
    (hclos : closureFor scope env = pure cl) (hcell : ∀ y ∈ scope.names, y.2 ≠ .cell) (hkind : scope.kind = .function)
    (hnames : ∀ y ∈ scope.names, y.2 = .local → scope.names.lookup y.1 = some .local) (hx : scope.names.lookup x = some .local) (hx₂ : scope.names.lookup x₂ = some .local) (hx₃ : scope.names.lookup x₃ = some .local)
    (h12 : x ≠ x₂) (h13 : x ≠ x₃) (h23 : x₂ ≠ x₃)
    (h : wpAny (model prog w) A (eval iter env) (TriSrc prog w A h₀ L m env elt x x₂ x₃ scope cl Q) E s)
    (hs : ∀ x, foldedSetIterable iter env x = pure x := by intro _; rfl) :
    wpAny (model prog w) A (eval (.ListComp elt [⟨.Tuple [.Name x px, .Name x₂ px₂, .Name x₃ px₃] kk tp, iter, [], 0⟩] scope pos) env) Q E s := by
  rw [eval_ListComp]
  refine wpAny_comprehension_free (use := none) rfl hs hclos hkind hnames (wpAny_mono h (fun xv s₁ h₁ => ?_) fun _ _ e => e)
  obtain ⟨ax, its, nn, news, V, R, rfl, hh, F, N, hax, hsz, hit, hev, hfin⟩ := h₁
  have hl : s₁.heap.IsList ax its := ⟨_, (N _ hax).1, rfl, nn, rfl⟩
  have hlt : ax < s₁.heap.objs.size := by obtain ⟨_, e, _⟩ := hl; exact Heap.lt_size e
  refine wpAny_pyIter_list hl ?_
  generalize hit0 : ({ cls := .type "list_iterator", data := .fields #[.ref ax, .int 0 0] } : Obj) = oit
  have up : ∀ b o, s₁.heap.get? b = some o → (s₁.heap.push oit).get? b = some o := fun b o e => Heap.get?_push_of_some _ e
  have W := Walks.list (prog := prog) (w := w) hh s₁.heap.objs.size ax (Nat.ne_of_lt hlt) its
  have F1 : Fr h₀ L (s₁.heap.push oit) m := F.keeps up
  have N1 : News h₀ L (s₁.heap.push oit) news := N.grown up
  have hI0 : h₀.get? s₁.heap.objs.size = none := next_is_new F
  have hIL : L ≠ s₁.heap.objs.size := Nat.ne_of_lt F.ns.lt
  have offI : ∀ p ∈ news, p.1 ≠ s₁.heap.objs.size := fun p hp => Nat.ne_of_lt (Heap.lt_size (N p hp).1)
  have hst : (s₁.heap.push oit).IsListIter s₁.heap.objs.size ax 0 ∧ (s₁.heap.push oit).IsList ax its := by
    subst hit0
    exact ⟨⟨_, Heap.get?_push_size _ rfl, rfl, rfl⟩, hl.push _⟩
  have hfpI : s₁.heap.objs.size < (s₁.heap.push oit).objs.size := by rw [Heap.size_push]; exact Nat.lt_succ_self _
  have hfpA : ax < (s₁.heap.push oit).objs.size := Nat.lt_trans hlt hfpI
  clear N hl
  generalize hHp : s₁.heap.push oit = Hp at *
  generalize hIg : s₁.heap.objs.size = I at *
  refine wpAny_newObj_type (wpAny_newFunctionEnv hcell (by intro y hy; simp at hy) (fun h₁ hns₁ hsb₁ => ?_) hkind)
  dsimp only at hns₁ hsb₁ ⊢
  generalize hH2 : Hp.push { cls := .type "list", dict := none, data := .seq ([] : List Value).toArray } = H2 at hns₁ hsb₁ ⊢
  have hC : H2.objs.size = Hp.objs.size + 1 := by rw [← hH2, Heap.size_push]
  generalize hDd : Hp.objs.size = D at *
  generalize hCd : H2.objs.size = C at *
  have hDC : D ≠ C := by rw [hC]; exact Nat.ne_of_lt (Nat.lt_succ_self _)
  have below : ∀ b, b < D → b ≠ C ∧ b ≠ D := fun b hb => ⟨by rw [hC]; exact Nat.ne_of_lt (Nat.lt_succ_of_lt hb), Nat.ne_of_lt hb⟩
  have old : ∀ b o, Hp.get? b = some o → h₁.get? b = some o := fun b o e => hsb₁.extBut b o (below b (hDd ▸ Heap.lt_size e)).1 (Heap.get?_push_of_some _ (hH2 ▸ Heap.get?_push_of_some _ e))
  have hacc : h₁.get? D = some (lst []) := hsb₁.extBut _ _ hDC (Heap.get?_push_of_some _ (by rw [← hH2, ← hDd]; exact Heap.get?_push_size _ rfl))
  have fresh₀ : ∀ a, D ≤ a → h₀.get? a = none := fun a ha => by
    cases e : h₀.get? a with
    | none => rfl
    | some o' => exact absurd (hDd ▸ Heap.lt_size (F1.keep a o' e)) (Nat.not_lt.mpr ha)
  have hD₀ : h₀.get? D = none := fresh₀ _ (Nat.le_refl _)
  have hC₀ : h₀.get? C = none := fresh₀ _ (by rw [hC]; exact Nat.le_succ _)
  have hLlt : L < D := hDd ▸ F1.ns.lt
  have hDL : D ≠ L := Ne.symm (below L hLlt).2
  have hCL : C ≠ L := Ne.symm (below L hLlt).1
  have hCI : I ≠ C := (below I hfpI).1
  have hDI : I ≠ D := (below I hfpI).2
  have offC : ∀ p ∈ news, p.1 ≠ C := fun p hp => (below _ (hDd ▸ Heap.lt_size (N1 p hp).1)).1
  have offD : ∀ p ∈ news, p.1 ≠ D := fun p hp => (below _ (hDd ▸ Heap.lt_size (N1 p hp).1)).2
  have fpb : ∀ b ∈ [I, ax], b < D := fun b hb => by
    rcases List.mem_cons.mp hb with rfl | hb
    · exact hfpI
    · rw [List.mem_singleton.mp hb]; exact hfpA
  have hst₁ : h₁.IsListIter I ax 0 ∧ h₁.IsList ax its := W.frame _ _ _ hst fun b _ o e => old b o e
  have loop : ∀ s₃ : Shared, s₃ = { s₁ with heap := h₁, toks := s₁.toks + ([] : List (Str × Value)).length } →
      codeAny (model prog w) A (.compLoop (.ListComp elt [⟨.Tuple [.Name x px, .Name x₂ px₂, .Name x₃ px₃] kk tp, iter, [], 0⟩] scope pos) 0 (.ref I) (.ref D) (compEnvC scope cl C env))
        (compPost (model prog w) A E none Q (.ref D) C) s₃ := by
    rintro s₃ rfl
    refine LCp.codeAny_compLoop_pair
      (fun k s' => ∃ h' tk i ys m', s' = { s₁ with heap := h', toks := tk } ∧ i ≤ its.size ∧ k = its.size + 1 - i ∧ ys.length = i ∧ (h'.IsListIter I ax i ∧ h'.IsList ax its) ∧ Fr h₀ L h' m ∧ h'.Ns C m' ∧ News h₀ L h' ((D, lst ys) :: news) ∧ ∀ j y, ys[j]? = some y → R j y) ?_ (its.size + 1)
      ⟨h₁, _, 0, [], _, rfl, Nat.zero_le _, rfl, rfl, hst₁, F1.keeps old, hns₁, fun p hp => ?_, fun j y e => by simp at e⟩
    · rintro k s' ⟨h', tk, i, ys, m', rfl, hi, rfl, hyl, hst', F', hn', N', hR'⟩
      by_cases hlt' : i < its.size
      · refine W.item i _ _ _ hlt' hst' fun v h₂ tk₂ hPv hst₂ hk₂ => ?_
        obtain ⟨t, a, b, c, n, rfl, hmt, hV⟩ := hit i v hPv
        have N₂ : News h₀ L h₂ ((D, lst ys) :: news) := news_but N' hk₂ fun p hp => by
          rcases List.mem_cons.mp hp with rfl | hp
          · exact Ne.symm hDI
          · exact offI p hp
        have ht : IsTup h₂ t #[a, b, c] := ⟨_, (N₂ _ (List.mem_cons_of_mem _ hmt)).1, rfl, n, rfl⟩
        refine wpAny_letOwnedTupleGo_listiter hst₂.1 ?_
        refine assign_Tuple_tuple hh ht rfl rfl fun h₅ he => ?_
        have he' : ∀ b o, h₂.get? b = some o → h₅.get? b = some o := fun b o e => he b o (Nat.ne_of_lt (Heap.lt_size e)) e
        refine assignInOrder_cons (wpAny_assign_Name (wpAny_storeName_local (lookup_relabel_local hx) ((hn'.at' fun o e => hk₂ _ o (by simpa using Ne.symm hCI) e).at' fun o e => he' _ o e) (fun h₆ hn₆ hs₆ => ?_) (by simp [compEnvC, relabel, hkind])))
        refine assignInOrder_cons (wpAny_assign_Name (wpAny_storeName_local (lookup_relabel_local hx₂) hn₆ (fun h₇ hn₇ hs₇ => ?_) (by simp [compEnvC, relabel, hkind])))
        refine assignInOrder_cons (wpAny_assign_Name (wpAny_storeName_local (lookup_relabel_local hx₃) hn₇ (fun h₃ hn₃ hs₃ => ?_) (by simp [compEnvC, relabel, hkind])))
        refine assignInOrder_nil ?_
        have old3 : ∀ b o, b ≠ C → h₂.get? b = some o → h₃.get? b = some o := fun b o hb e => hs₃.extBut b o hb (hs₇.extBut b o hb (hs₆.extBut b o hb (he' b o e)))
        have hst₃ : h₃.IsListIter I ax (i + 1) ∧ h₃.IsList ax its := W.frame _ _ _ hst₂ fun b hb o e => old3 b o (below b (fpb b hb)).1 e
        obtain ⟨oI, heI, _⟩ := id hst₃.1
        obtain ⟨oC, heC, hoC⟩ := ns_obj hn₃
        have F₃ : Fr h₀ L h₃ m := ((((fr_but F' hk₂ hIL hI0).keeps he').change hs₆ hCL hC₀).change hs₇ hCL hC₀).change hs₃ hCL hC₀
        have N₃ : News h₀ L h₃ ((I, oI) :: (C, oC) :: (D, lst ys) :: news) := fun p hp => by
          rcases List.mem_cons.mp hp with rfl | hp
          · exact ⟨heI, Ne.symm hIL, hI0⟩
          · rcases List.mem_cons.mp hp with rfl | hp
            · exact ⟨heC, hCL, hC₀⟩
            · have z := N₂ p hp
              refine ⟨old3 _ _ ?_ z.1, z.2⟩
              rcases List.mem_cons.mp hp with rfl | hp
              · exact hDC
              · exact offC p hp
        refine hev i a b c I oI C oC D _ h₃ _ _ ys _ hV hoC (by simp [h12, h13]) (by simp [h23]) (by simp) F₃ N₃ fun y h₄ tk₄ hy F₄ N₄ => ?_
        have zI := (N₄ (I, oI) List.mem_cons_self).1
        have zC := (N₄ (C, oC) (List.mem_cons_of_mem _ List.mem_cons_self)).1
        have zD := (N₄ (D, lst ys) (List.mem_cons_of_mem _ (List.mem_cons_of_mem _ List.mem_cons_self))).1
        have N₄' : News h₀ L h₄ news := fun p hp => N₄ p (List.mem_cons_of_mem _ (List.mem_cons_of_mem _ (List.mem_cons_of_mem _ hp)))
        have hst₄ : h₄.IsListIter I ax (i + 1) ∧ h₄.IsList ax its := ⟨by obtain ⟨o', q, r⟩ := hst₃.1; rw [heI] at q; cases q; exact ⟨_, zI, r⟩, ⟨_, (N₄' _ hax).1, rfl, nn, rfl⟩⟩
        refine append_at (hsz := by show ys.toArray.size ≤ sizeLine; rw [List.size_toArray, hyl]; exact Nat.le_trans hi hsz) zD fun h₈ hs₈ hD₈ => ?_
        refine ⟨its.size + 1 - (i + 1), by omega, h₈, tk₄, i + 1, ys ++ [y], _, rfl, hlt', rfl, by rw [List.length_append, List.length_singleton, hyl], W.frame _ _ _ hst₄ fun b hb o e => hs₈.extBut b o (below b (fpb b hb)).2 e, F₄.change hs₈ hDL hD₀,
          (hoC.ns zC).sameBut hs₈ (Ne.symm hDC), fun p hp => ?_, fun j z hz => ?_⟩
        · rcases List.mem_cons.mp hp with rfl | hp
          · exact ⟨hD₈.trans (congrArg some (lst_snoc ys y)), hDL, hD₀⟩
          · exact ⟨hs₈.extBut _ _ (offD p hp) (N₄' p hp).1, (N₄' p hp).2⟩
        · rcases Nat.lt_trichotomy j ys.length with hj | hj | hj
          · rw [List.getElem?_append_left hj] at hz
            exact hR' j z hz
          · rw [hj, List.getElem?_append_right (Nat.le_refl _), Nat.sub_self] at hz
            rw [hj, hyl]
            have e : y = z := Option.some.inj hz
            rw [← e]; exact hy
          · rw [List.getElem?_eq_none (by rw [List.length_append, List.length_singleton]; omega)] at hz
            cases hz
      · obtain rfl : i = its.size := Nat.le_antisymm hi (Nat.not_lt.mp hlt')
        refine W.done _ _ _ hst' fun h₂ tk₂ hk₂ => ?_
        have F₂ := fr_but F' hk₂ hIL hI0
        have N₂ : News h₀ L h₂ ((D, lst ys) :: news) := news_but N' hk₂ fun p hp => by
          rcases List.mem_cons.mp hp with rfl | hp
          · exact Ne.symm hDI
          · exact offI p hp
        refine ⟨m', hn'.at' fun o e => hk₂ _ o (by simpa using Ne.symm hCI) e, fun h'' hs'' => ?_⟩
        refine hfin ys hyl hR' D h'' tk₂ (F₂.change hs'' hCL hC₀) (fun p hp => ?_) offD
        refine ⟨hs''.extBut _ _ ?_ (N₂ p hp).1, (N₂ p hp).2⟩
        rcases List.mem_cons.mp hp with rfl | hp
        · exact hDC
        · exact offC p hp
    · rcases List.mem_cons.mp hp with rfl | hp
      · exact ⟨hacc, hDL, hD₀⟩
      · exact ⟨old _ _ (N1 p hp).1, (N1 p hp).2⟩
  exact codeAny_compStart_list (loop _ rfl) (W.self 0 _ _ _ hst₁ (loop _ rfl))
end
end

section
open PySem PySem.W PyProof.Rows PySem.Flt
set_option Elab.async false
set_option maxRecDepth 100000
set_option maxHeartbeats 8000000
set_option pp.deepTerms false
theorem offD9 : True := by
  w_top off
  k_with_none
  exact trivial
theorem said9 : True := by
  k_with "mine steps" => (repeat' (first | (k_unfold; (try dsimp only)) | (k_end; kc_close) | ((fail_if_success (with_reducible show wpAny _ _ (exec (PySem.Stmt.For _ _ _ _ _) _) _ _ _)); (fail_if_success (with_reducible show wpAny _ _ (pyIter _) _ _ _)); (fail_if_success (with_reducible show wpAny _ _ (eval (PySem.Expr.ListComp _ _ _ _) _) _ _ _)); first | walk1 | (dsimp only; walk1) | (leave1; walk_say "STEP leave1"; (try dsimp only))) | fail "no step"))
  k_with "mine toPow" => (repeat' (first | (k_unfold; (try dsimp only)) | (k_end; kc_close) | ((fail_if_success (with_reducible show wpAny _ _ (binaryOp PySem.Operator.Pow _ _) _ _ _)); first | walk1 | (dsimp only; walk1) | (leave1; walk_say "STEP leave1"; (try dsimp only))) | fail "no step"))
  exact trivial
theorem mulN {prog : Program} {w : World} {A : Around} {E : Value → Shared → Prop} {s : Shared} {Q : Value → Shared → Prop} {t u : Tok} {b c : Nat} (hc : c = 3 * b) (h : Q (.int (c : Int) s.toks) { s with toks := s.toks + 1 }) : wpAny (model prog w) A (binaryOp .Mult (.int 3 t) (.int (b : Int) u)) Q E s :=
  PyProof.Rows.mul_int (by rw [show (3 : Int) * (b : Int) = (c : Int) from by omega]; exact h) (.of_left (by decide))
theorem said10 : True := by
  k_with "binaryOp Mult int int" => ((k_here; refine mulN (by assumption) ?_; (try dsimp only)))
  exact trivial
/-- what the law's first number says -/
def wideOf (ns : List Int) : Nat := (1 + ((ns ++ [0]).getD 0 0).fmod 3).toNat
theorem wideOf_eq (ns : List Int) : 1 + ((ns ++ [0]).getD (Int.toNat 0) 0).fmod 3 = (wideOf ns : Int) ∧ 1 ≤ wideOf ns ∧ wideOf ns ≤ 3 := by
  have h1 := Int.fmod_nonneg_of_pos ((ns ++ [0]).getD 0 0) (show (0 : Int) < 3 by decide)
  have h2 := Int.fmod_lt_of_pos ((ns ++ [0]).getD 0 0) (show (0 : Int) < 3 by decide)
  unfold wideOf
  rw [show Int.toNat 0 = 0 from rfl]
  omega
/-- the law's own four colours as numbers -/
def fixedN (U : Nat) : List Nat := [0, ((U - 1) * U + 2) * U + 5, (3 * U + (U - 2)) * U + 1, (4 * U + 7) * U + (U - 3)]
theorem fixE1 {U : Nat} (h : 16 ≤ U) : (((U : Int) - 1) * U + 2) * U + 5 = ((((U - 1) * U + 2) * U + 5 : Nat) : Int) := by
  rw [Int.natCast_add, Int.natCast_mul, Int.natCast_add, Int.natCast_mul, Int.natCast_sub (by omega)]; rfl
theorem fixE2 {U : Nat} (h : 16 ≤ U) : (3 * (U : Int) + ((U : Int) - 2)) * U + 1 = (((3 * U + (U - 2)) * U + 1 : Nat) : Int) := by
  rw [Int.natCast_add, Int.natCast_mul, Int.natCast_add, Int.natCast_mul, Int.natCast_sub (by omega)]; rfl
theorem fixE3 {U : Nat} (h : 16 ≤ U) : (4 * (U : Int) + 7) * U + ((U : Int) - 3) = (((4 * U + 7) * U + (U - 3) : Nat) : Int) := by
  rw [Int.natCast_add, Int.natCast_mul, Int.natCast_add, Int.natCast_mul, Int.natCast_sub (by omega)]; rfl
theorem ints_of : ∀ {ys : List Value} {xs : List Nat}, ys.length = xs.length → (∀ j y, ys[j]? = some y → ∃ t : Tok, y = Value.int ((xs.getD j 0 : Nat) : Int) t) → IntsAre ys (xs.map fun (n : Nat) => (n : Int))
  | [], [], _, _ => .nil
  | y :: ys, x :: xs, hl, h => by
    obtain ⟨t, rfl⟩ := h 0 y rfl
    exact .cons _ _ (ints_of (Nat.succ.inj hl) fun j z hz => h (j + 1) z hz)
  | [], _ :: _, hl, _ => nomatch hl
  | _ :: _, [], hl, _ => nomatch hl
/-- the numbers that the law goes through -/
def numsN (U : Nat) (ns : List Int) : List Nat := fixedN U ++ (ns.take 5).map fun k => (k.fmod (2 ^ 60)).toNat
theorem numsN_cast (U : Nat) (ns : List Int) : (fixedN U).map (fun (n : Nat) => (n : Int)) ++ (ns.take 5).map (fun k' => k'.fmod (2 ^ Int.toNat 60)) = (numsN U ns).map fun (n : Nat) => (n : Int) := by
  unfold numsN
  rw [List.map_append, List.map_map]
  congr 1
  refine List.map_congr_left fun k _ => ?_
  have h := Int.fmod_nonneg_of_pos k (show (0 : Int) < 2 ^ 60 by decide)
  show k.fmod (2 ^ 60) = ((k.fmod (2 ^ 60)).toNat : Int)
  omega
theorem numsN_length (U : Nat) (ns : List Int) : (numsN U ns).length ≤ 9 := by
  unfold numsN
  rw [List.length_append, List.length_map, List.length_take]
  show 4 + _ ≤ 9
  omega
end

section
open PySem PySem.W PyProof.Rows PySem.Flt
set_option Elab.async false
set_option maxRecDepth 100000
set_option maxHeartbeats 8000000
set_option pp.deepTerms false
theorem offS9 : True := by
  w_top off
  k_with_none
  exact trivial
theorem said11 : True := by
  k_with "mine steps" => (repeat' (first | (k_unfold; (try dsimp only)) | (k_end; kc_close) | ((fail_if_success (with_reducible show wpAny _ _ (exec (PySem.Stmt.For _ _ _ _ _) _) _ _ _)); (fail_if_success (with_reducible show wpAny _ _ (pyIter _) _ _ _)); (fail_if_success (with_reducible show wpAny _ _ (eval (PySem.Expr.ListComp _ _ _ _) _) _ _ _)); first | walk1 | (dsimp only; walk1) | (leave1; walk_say "STEP leave1"; (try dsimp only))) | fail "no step"))
  k_with "mine toPow" => (repeat' (first | (k_unfold; (try dsimp only)) | (k_end; kc_close) | ((fail_if_success (with_reducible show wpAny _ _ (binaryOp PySem.Operator.Pow _ _) _ _ _)); first | walk1 | (dsimp only; walk1) | (leave1; walk_say "STEP leave1"; (try dsimp only))) | fail "no step"))
  k_with "binaryOp Mult int int" => ((k_here; refine mulN (by assumption) ?_; (try dsimp only)))
  exact trivial
noncomputable def st1 : { T : Prop // T → PySem.Challenge.rw_mj0073_01.Holds } := ⟨Wrap _, fun walk => by
  refine hd ?_
  k_go0
  rename Fr _ _ _ _ => F0
  rename News _ _ _ _ => N0
  rename IntsAre _ _ => hI
  rename (¬ (_ < ((List.length _ : Nat) : Int))) => hlen
  rename Heap.IsList _ _ _ => hL
  rename Below _ _ _ _ => B0
  rename Frag.In _ _ => X0
  rename Top _ _ _ _ _ _ => T0
  rename_i w s₀ s₁ mg mb G Y fa o pm doc ho hg X1 V GL B TE TW w12 w11 M w10 w9 hcd ns hs hlay0 hL1 hr1 hl2 w7 w6 l vs w3 ra w1 r0 hr hcond2 hD h₁ tk₁ c1 c2 c3 d1 d2 d3 Y0
  refine wpAny_mono (Q := fun fl s' => fl = Flow.ret (.bool true) ∧ ∃ h' tk' mm, s' = { s₁ with heap := h', toks := tk' } ∧ Fr s₁.heap s₁.heap.objs.size h' mm) (E := fun _ _ => False) ?main ?fin (fun _ _ h => h.elim)
  case fin =>
    rintro fl s' ⟨rfl, h', tk', mm, rfl, F'⟩
    (try dsimp only)
    (k_end; kc_close)
  case main =>
    have hlen' : ns.length ≤ 63 := by omega
    obtain ⟨m0, hm0, F1⟩ : ∃ m, m (Str.ofString "script") = some (.ref l) ∧ Fr s₁.heap s₁.heap.objs.size h₁ m := ⟨_, by with_unfolding_all rfl, F0⟩
    have F2 : Fr s₁.heap s₁.heap.objs.size h₁ (fun y => if y = Str.ofString "script" then some (.ref l) else m0 y) := by
      have e : (fun y => if y = Str.ofString "script" then some (Value.ref l) else m0 y) = m0 := by
        funext y
        by_cases h : y = Str.ofString "script"
        · subst h; rw [if_pos rfl, hm0]
        · rw [if_neg h]
      rw [e]; exact F1
    obtain ⟨v1, e1⟩ : ∃ v, c1.data = .cell v := ⟨_, d1⟩
    obtain ⟨v2, e2⟩ : ∃ v, c2.data = .cell v := ⟨_, d2⟩
    obtain ⟨v3, e3⟩ : ∃ v, c3.data = .cell v := ⟨_, d3⟩
    clear d1 d2 d3 Y0 hD hcd F0 F1 hm0 hcond2 hr r0 w1 ra hl2 hr1 hL1 hlay0 hs M TE TW B GL V X1 hg ho G Y
    dsimp only
    have B1 : Below callerA s₁.heap [] s₁.heap := B0
    clear B0 hlen
    obtain ⟨hwd, hw1, hw3⟩ := wideOf_eq ns
    generalize wideOf ns = wd at hwd hw1 hw3
    obtain ⟨U, hU⟩ : ∃ U : Nat, U = 16 ^ wd := ⟨_, rfl⟩
    obtain ⟨z, hz⟩ : ∃ z : Nat, z = 3 * wd := ⟨_, rfl⟩
    have hU4 : U ≤ 4096 := by rw [hU]; exact Nat.le_trans (Nat.pow_le_pow_right (by decide) hw3) (by decide)
    have hU16 : 16 ≤ U := by rw [hU]; exact Nat.le_trans (by decide) (Nat.pow_le_pow_right (by decide) hw1)
    walk_at "mine toPow"
    rw [hwd]
    rename Fr _ _ _ _ => F3
    rw [hwd] at F3
    dsimp only at F3
    refine powN (b := 16) rfl (by decide) (by omega) ?_
    rw [← hU]
    dsimp only
    walk_at "mine steps"
    rename_i la _ q1 D4 ws' _ hI' q2 _ _ _ _ oU dU _ _ oZ dZ _ D3 _ q3 D2 _ q4 D1 _ q5 D0 _ q6 lf _ q7 _ F4 N4
    refine comp_tri F4 (by with_unfolding_all rfl) (by decide) (by rfl) (by decide) (by rfl) (by rfl) (by rfl) (by decide) (by decide) (by decide) ?_
    walk1
    refine ⟨lf, _, _, _, fun i a b c => (i = 0 → (∃ t, a = .int 0 t) ∧ (∃ t, b = .int 0 t) ∧ (∃ t, c = .int 0 t)) ∧ (i = 1 → (∃ t, a = .int ((U : Int) - 1) t) ∧ (∃ t, b = .int 2 t) ∧ (∃ t, c = .int 5 t)) ∧ (i = 2 → (∃ t, a = .int 3 t) ∧ (∃ t, b = .int ((U : Int) - 2) t) ∧ (∃ t, c = .int 1 t)) ∧ (i = 3 → (∃ t, a = .int 4 t) ∧ (∃ t, b = .int 7 t) ∧ (∃ t, c = .int ((U : Int) - 3) t)) ∧ i < 4,
      fun i y => ∃ t, y = .int (((fixedN U).getD i 0 : Nat) : Int) t, rfl, rfl, F4, N4, List.mem_cons_self, by rw [sizeLine_eq]; exact Nat.le_of_ble_eq_true rfl, ?t1, ?t2, ?t3⟩
    case t1 =>
      intro i v hv
      have hi : i < 4 := (Array.getElem?_eq_some_iff.mp hv).1
      have h4 : i = 0 ∨ i = 1 ∨ i = 2 ∨ i = 3 := by omega
      rcases h4 with rfl | rfl | rfl | rfl
      · exact ⟨D3, _, _, _, _, (Option.some.inj hv).symm, by k_mem, by simp⟩
      · exact ⟨D2, _, _, _, _, (Option.some.inj hv).symm, by k_mem, by simp⟩
      · exact ⟨D1, _, _, _, _, (Option.some.inj hv).symm, by k_mem, by simp⟩
      · exact ⟨D0, _, _, _, _, (Option.some.inj hv).symm, by k_mem, by simp⟩
    case t2 =>
      intro i a b c I oI C oC D m₂ h tk E' ys Q' hV hC hx hx2 hx3 F5 N5 hret'
      have h4 : i = 0 ∨ i = 1 ∨ i = 2 ∨ i = 3 := by omega
      rcases h4 with rfl | rfl | rfl | rfl
      · obtain ⟨⟨ta, rfl⟩, ⟨tb, rfl⟩, ⟨tc, rfl⟩⟩ := hV.1 rfl
        walk_at "mine steps"
        exact hret' _ _ _ ⟨_, congrArg (fun e => Value.int e _) (show (0 * (U : Int) + 0) * U + 0 = 0 by simp)⟩ F5 N5
      · obtain ⟨⟨ta, rfl⟩, ⟨tb, rfl⟩, ⟨tc, rfl⟩⟩ := hV.2.1 rfl
        walk_at "mine steps"
        exact hret' _ _ _ ⟨_, congrArg (fun e => Value.int e _) (fixE1 hU16)⟩ F5 N5
      · obtain ⟨⟨ta, rfl⟩, ⟨tb, rfl⟩, ⟨tc, rfl⟩⟩ := hV.2.2.1 rfl
        walk_at "mine steps"
        exact hret' _ _ _ ⟨_, congrArg (fun e => Value.int e _) (fixE2 hU16)⟩ F5 N5
      · obtain ⟨⟨ta, rfl⟩, ⟨tb, rfl⟩, ⟨tc, rfl⟩⟩ := hV.2.2.2.1 rfl
        walk_at "mine steps"
        exact hret' _ _ _ ⟨_, congrArg (fun e => Value.int e _) (fixE3 hU16)⟩ F5 N5
    case t3 =>
      intro ys hys hY D5 h5 tk5 F5 N5 off5
      have hIy : IntsAre ys ((fixedN U).map fun (n : Nat) => (n : Int)) := ints_of hys hY
      dsimp only
      refine LCg.ListComp_U F5 (by with_unfolding_all rfl) (by decide) (by rfl) (by decide) (by rfl) ?_
      walk_at "mine steps"
      rename IntsAre _ (List.map _ (fixedN U) ++ _) => hIn
      rw [numsN_cast] at hIn
      rename Fr _ _ _ _ => F6
      rename News _ _ _ _ => N6
      dsimp only at F6
      rename_i D8 wk _ hIk hCk hLk l1k hk1 hk2 hk3 hk4 g8 yk hI8 hL8 D9' _ _ o1k Dn wn _ qn _ tkp _ ld _ qd h6
      have N7 : News s₁.heap s₁.heap.objs.size h6 [(ld, listOf #[] 0), (Dn, listOf wn.toArray 0), (s₁.heap.objs.size + 1 + 1 + 1, c1), (s₁.heap.objs.size + 1 + 1, oZ), (s₁.heap.objs.size + 1, oU)] := by
        intro p hp
        refine N6 p ?_
        revert p
        lcg_sub
      have r1 : Dn < ld := qd.1
      have r2 : s₁.heap.objs.size + 1 + 1 + 1 < Dn := by omega
      obtain ⟨tU, dU⟩ : ∃ t, oU.data = .cell (some (.int (U : Int) t)) := ⟨_, dU⟩
      obtain ⟨tZ, dZ⟩ : ∃ t, oZ.data = .cell (some (.int (z : Int) t)) := ⟨_, dZ⟩
      clear N6 hIy hY hys off5 qd qn q1 q2 q3 q4 q5 q6 q7 hI' hI hL hwd e2 e3 hIk hCk hLk l1k hk1 hk2 hk3 hk4 hI8 hL8 o1k
      rename_i j1 j2 j3 j4 j5 j6 j7 j8 j9 j10 j11 j12 j13 j14 j15 j16 j17 j18 j19 j20 j21 j22 j23 j24 j25
      revert w s₀ s₁ mg mb fa o pm doc X0 T0 w12 w11 w10 w9 ns w7 w6 l vs w3 h₁ tk₁ c1 c2 c3 hlen' m0 v1 e1 v2 v3 B1 wd hw1 hw3 U hU z hz hU4 hU16 la j1 D4 ws' j2 j3 j4 j5 j6 oU j7 j8 j9 oZ j10 j11 D3 j12 D2 j13 D1 j14 D0 j15 lf j16 j17 j18 D8 D5 h5 tk5 wk j19 g8 yk ys D9' j20 j21 Dn wn j22 hIn j23 tkp j24 ld j25 h6 F6 tk N7 r1 r2 tU dU tZ dZ
      exact walk.get⟩
end

section
open PySem PySem.W PyProof.Rows PySem.Flt
set_option Elab.async false
set_option maxRecDepth 100000
section
variable {prog : Program} {w : World} {A : Around} {E : Value → Shared → Prop} {s : Shared} {Q : Value → Shared → Prop} {t u : Tok}
theorem pow3 {a b : Nat} (hb : b = a ^ 3) (ha : a ≤ 4096) (h : Q (.int (b : Int) s.toks) { s with toks := s.toks + 1 }) : wpAny (model prog w) A (binaryOp .Pow (.int (a : Int) t) (.int 3 u)) Q E s := by
  refine pow_int_small (by decide) (by decide) (by rw [Int.natAbs_natCast]; lia) ?_
  rw [show ((a : Int) ^ (3 : Int).toNat) = (b : Int) from by rw [hb]; simp]
  exact h
theorem add32 {a b : Nat} (hb : b = 32 + a) (h : Q (.int (b : Int) s.toks) { s with toks := s.toks + 1 }) : wpAny (model prog w) A (binaryOp .Add (.int 32 t) (.int (a : Int) u)) Q E s :=
  add_int (by rw [show (32 : Int) + (a : Int) = (b : Int) from by lia]; exact h)
end
def hexs : List Nat := [35, 48, 49, 50, 51, 52, 53, 54, 55, 56, 57, 65, 66, 67, 68, 69, 70, 97, 98, 99, 100, 101, 102]
def edgeC (e : Nat) : Nat := if hexs.contains e then 71 else e
theorem sliceIdx (n : Nat) (hn : 1 ≤ n) : Builtin.Str.strSliceIndices none (some (-1)) 1 n = List.range (n - 1) := by
  show sliceRange 0 (max 0 (min (-1 + (n : Int)) n)) 1 = _
  have e : max 0 (min (-1 + (n : Int)) n) = ((n - 1 : Nat) : Int) := by lia
  rw [e]
  show (List.range (if (0 : Int) < ((n - 1 : Nat) : Int) then (((n - 1 : Nat) : Int) - 0 + 1 - 1) / 1 else 0).toNat).map (fun (k : Nat) => ((0 : Int) + 1 * (k : Int)).toNat) = _
  have e2 : (if (0 : Int) < ((n - 1 : Nat) : Int) then (((n - 1 : Nat) : Int) - 0 + 1 - 1) / 1 else 0).toNat = n - 1 := by
    split <;> lia
  rw [e2]
  conv => rhs; rw [← List.map_id (List.range (n - 1))]
  refine List.map_congr_left fun k _ => ?_
  show ((0 : Int) + 1 * (k : Int)).toNat = k
  lia
theorem takeIdx (l : List Nat) : ∀ k, k ≤ l.length → (List.range k).filterMap (fun i => l.toArray[i]?) = l.take k
  | 0, _ => by simp
  | k + 1, h => by
    rw [List.range_succ, List.filterMap_append, takeIdx l k (by lia), List.take_add_one]
    congr 1
    have hk : k < l.length := by lia
    simp [hk]
theorem sliceL (wl : List Nat) (h : 1 ≤ wl.length) : Txt.slice ⟨wl.toArray⟩ none (some (-1)) = ⟨wl.dropLast.toArray⟩ := by
  unfold Txt.slice
  have hl : (⟨wl.toArray⟩ : Str).length = wl.length := by show wl.toArray.size = _; simp
  rw [hl, sliceIdx _ h, List.length_range]
  rw [if_neg (by simp; lia)]
  show (⟨((List.range (wl.length - 1)).filterMap (fun i => wl.toArray[i]?)).toArray⟩ : Str) = _
  rw [takeIdx _ _ (by lia), List.dropLast_eq_take]
theorem hashL : Str.ofString "#" = ⟨[35].toArray⟩ := by decide +kernel
theorem hexIn (c : Nat) : (Builtin.Str.occurrences (Str.ofString "#0123456789ABCDEFabcdef") ⟨#[c]⟩ 0 (Str.ofString "#0123456789ABCDEFabcdef").length 1).isEmpty = !hexs.contains c := by
  have h := StrLaws.found_one (Str.ofString "#0123456789ABCDEFabcdef") c
  rw [show (Str.ofString "#0123456789ABCDEFabcdef").cps.toList = [35, 48, 49, 50, 51, 52, 53, 54, 55, 56, 57, 65, 66, 67, 68, 69, 70, 97, 98, 99, 100, 101, 102] from by decide +kernel] at h
  rw [← Bool.not_not (List.isEmpty _), h]
  congr 1
  rw [Bool.eq_iff_iff, decide_eq_true_eq, List.contains_iff_mem]
  exact Iff.rfl
section
variable {prog : Program} {w : World} {A : Around} {E : Value → Shared → Prop} {s : Shared} {Q : Value → Shared → Prop} {t u : Tok}
theorem catS (a b : List Nat) : (⟨a.toArray⟩ : Str) ++ ⟨b.toArray⟩ = ⟨(a ++ b).toArray⟩ := by
  refine Str.ext' ?_
  rw [Str.cps_append]
  simp
theorem addS {x y : Str} {a b : List Nat} (hx : x = ⟨a.toArray⟩) (hy : y = ⟨b.toArray⟩) (hl : a.length + b.length ≤ 1000000) (h : ∀ t' tk, Q (.str ⟨(a ++ b).toArray⟩ t') { s with toks := tk }) : wpAny (model prog w) A (binaryOp .Add (.str x t) (.str y u)) Q E s := by
  subst hx hy
  refine add_str (fun t' tk => by rw [catS]; exact h t' tk) ?_
  show a.toArray.size + b.toArray.size ≤ _
  rw [sizeLine_eq]; simp; lia
theorem iaddS {x y : Str} {a b : List Nat} (hx : x = ⟨a.toArray⟩) (hy : y = ⟨b.toArray⟩) (hl : a.length + b.length ≤ 1000000) (h : ∀ t' tk, Q (.str ⟨(a ++ b).toArray⟩ t') { s with toks := tk }) : wpAny (model prog w) A (inplaceOp .Add (.str x t) (.str y u)) Q E s := by
  subst hx hy
  refine iadd_str (fun t' tk => by rw [catS]; exact h t' tk) ?_
  show a.toArray.size + b.toArray.size ≤ _
  rw [sizeLine_eq]; simp; lia
theorem sliceM {value slice : PySem.Expr} {h₀ : Heap} {L : Addr} {m : Str → Option Value} {news : List (Addr × Obj)} {wl : List Nat} {uj : Tok} (F : Fr h₀ L s.heap m) (N : News h₀ L s.heap news) (h1 : 1 ≤ wl.length) (h2 : wl.length ≤ 1000) (h : ∀ h' t' k, Fr h₀ L h' m → News h₀ L h' news → Q (.str ⟨wl.dropLast.toArray⟩ t') { s with heap := h', toks := k })
    (hs : subscripted slice false (.str ⟨wl.toArray⟩ t) (.ref s.heap.objs.size) = operate [.ref s.heap.objs.size, .str ⟨wl.toArray⟩ t] (getItem (.str ⟨wl.toArray⟩ t) (.ref s.heap.objs.size)) := by with_unfolding_all rfl)
    (ht : ∀ r, letTemporaryGo value (.str ⟨wl.toArray⟩ t) r = pure () := by intro _; with_unfolding_all rfl) :
    wpAny (model prog w) A (subscriptTail value slice (.str ⟨wl.toArray⟩ t) (.ref s.heap.objs.size)) Q E { s with heap := s.heap.push { cls := .type "slice", data := .fields #[.none, .int (-1) uj, .none] } } :=
  slice_strN_ns F N (fun h' t' k F' N' => by rw [sliceL _ h1]; exact h h' t' k F' N') hs ht (by show wl.toArray.size ≤ _; rw [sizeLine_eq]; simp; lia)
theorem itemS0 {value slice : PySem.Expr} {wl : List Nat} (h1 : 1 ≤ wl.length) (h2 : wl.length ≤ 1000) (h : Q (.str ⟨[wl.headD 0].toArray⟩ s.toks) { s with toks := s.toks + 1 })
    (hs : subscripted slice false (.str ⟨wl.toArray⟩ t) (.int 0 u) = operate [.str ⟨wl.toArray⟩ t, .int 0 u] (getItem (.str ⟨wl.toArray⟩ t) (.int 0 u)) := by with_unfolding_all rfl)
    (ht : ∀ r, letTemporaryGo value (.str ⟨wl.toArray⟩ t) r = pure () := by intro _; with_unfolding_all rfl) :
    wpAny (model prog w) A (subscriptTail value slice (.str ⟨wl.toArray⟩ t) (.int 0 u)) Q E s := by
  have hl : (⟨wl.toArray⟩ : Str).length = wl.length := by show wl.toArray.size = _; simp
  refine KXi.item (n := wl.length) hl (by lia) (by lia) (by lia) (fun _ => ?_) hs ht
  have e : Txt.item ⟨wl.toArray⟩ 0 = ⟨[wl.headD 0].toArray⟩ := by
    match wl, h1 with
    | c :: r, _ => exact PyProof.Rows.item_meets (n := c) (by decide) (by simp)
  rw [e]; exact h
end
theorem powY {prog : Program} {w : World} {A : Around} {E : Value → Shared → Prop} {s : Shared} {Q : Value → Shared → Prop} {t u : Tok} {y : Int} {n : Nat} (hy : y = (n : Int)) (hn : n ≤ 1000) (h : Q (.int ((16 ^ n : Nat) : Int) s.toks) { s with toks := s.toks + 1 }) : wpAny (model prog w) A (binaryOp .Pow (.int 16 t) (.int y u)) Q E s := by
  subst hy
  exact powN (b := 16) rfl (by decide) (by lia) h
/-- the part of the page that one number makes -/
def pageOf (z V : Nat) (X : Nat) : List Nat :=
  let wl := wordL (X % V) (X / V / 5 % 512) z
  let c := edgeC ((32 + X / V / 2560) % 55296)
  if X / V % 5 = 2 then wl ++ [c] else if X / V % 5 = 3 then [35] ++ wl.dropLast ++ [c] else if X / V % 5 = 4 then [35] ++ wl ++ [wl.headD 0] ++ [c] else [35] ++ wl ++ [c]
def figsOf (z V : Nat) (X : Nat) : List Nat := (List.range z).map fun k => X % V / 16 ^ (z - 1 - k) % 16
def dueOf (z V : Nat) (X : Nat) : List (List Int) :=
  if X / V % 5 = 2 then [] else if X / V % 5 = 3 then [] else if X / V % 5 = 4 then [] else [(figsOf z V X).map fun (n : Nat) => (n : Int)]
def pageL (z V : Nat) (xs : List Nat) : List Nat := xs.flatMap (pageOf z V)
def dueL (z V : Nat) (xs : List Nat) : List (List Int) := xs.flatMap (dueOf z V)
theorem pageL_succ {z V i X : Nat} {xs : List Nat} (h : xs[i]? = some X) : pageL z V (xs.take (i + 1)) = pageL z V (xs.take i) ++ pageOf z V X := by
  unfold pageL; rw [List.take_add_one, h, List.flatMap_append]; simp
theorem dueL_succ {z V i X : Nat} {xs : List Nat} (h : xs[i]? = some X) : dueL z V (xs.take (i + 1)) = dueL z V (xs.take i) ++ dueOf z V X := by
  unfold dueL; rw [List.take_add_one, h, List.flatMap_append]; simp
structure PSt where
  pl : List Nat
  tp : Tok
  dv : List Value
  nd : Nat
  rows : List (Addr × Obj)
  cb : Obj
def EdgeEnd (h₀ : Heap) (L : Addr) (mc : Str → Option Value) (news : List (Addr × Obj)) (s : Shared) (e : Nat) (f : Flow) (s' : Shared) : Prop :=
  f = .next ∧ ∃ c t h' tk', s' = { s with heap := h', toks := tk' } ∧ c = edgeC e ∧ Fr h₀ L h' (fun y => if y = Str.ofString "edge" then some (.str ⟨#[c]⟩ t) else mc y) ∧ News h₀ L h' news
theorem join_edge {M : Model} {A : Around} {E : Value → Shared → Prop} {s : Shared} {h₀ : Heap} {L : Addr} {mc : Str → Option Value} {news : List (Addr × Obj)} (e : Nat) {st : PySem.Stmt} {env : Env} {Q : Flow → Shared → Prop}
    (_F : Fr h₀ L s.heap mc) (_N : News h₀ L s.heap news) (h1 : wpAny M A (exec st env) (EdgeEnd h₀ L mc news s e) E s)
    (h2 : ∀ c t h' tk', c = edgeC e → Fr h₀ L h' (fun y => if y = Str.ofString "edge" then some (.str ⟨#[c]⟩ t) else mc y) → News h₀ L h' news → Q .next { s with heap := h', toks := tk' }) : wpAny M A (exec st env) Q E s :=
  wpAny_mono h1 (fun f s' h => by
    obtain ⟨rfl, c, t, h', tk', rfl, hc, F, N⟩ := h
    exact h2 c t h' tk' hc F N) fun _ _ x => x
theorem EdgeEnd.same {h₀ h : Heap} {L : Addr} {mc : Str → Option Value} {news : List (Addr × Obj)} {s : Shared} {e : Nat} {t : Tok} {tk : Nat} (hm : mc (Str.ofString "edge") = some (.str ⟨#[e]⟩ t)) (hc : hexs.contains e = false) (F : Fr h₀ L h mc) (N : News h₀ L h news) :
    EdgeEnd h₀ L mc news s e .next { s with heap := h, toks := tk } := by
  refine ⟨rfl, e, t, h, tk, rfl, by unfold edgeC; rw [hc]; rfl, ?_, N⟩
  have q : (fun y => if y = Str.ofString "edge" then some (Value.str ⟨#[e]⟩ t) else mc y) = mc := by
    funext y
    by_cases hy : y = Str.ofString "edge"
    · subst hy; rw [if_pos rfl, hm]
    · rw [if_neg hy]
  rw [q]; exact F
theorem EdgeEnd.G {h₀ h : Heap} {L : Addr} {mc : Str → Option Value} {news : List (Addr × Obj)} {s : Shared} {e : Nat} {t : Tok} {tk : Nat} (hc : hexs.contains e = true) (F : Fr h₀ L h (fun y => if y = Str.ofString "edge" then some (.str (Str.ofString "G") t) else mc y)) (N : News h₀ L h news) :
    EdgeEnd h₀ L mc news s e .next { s with heap := h, toks := tk } := by
  refine ⟨rfl, 71, t, h, tk, rfl, by unfold edgeC; rw [hc]; rfl, ?_, N⟩
  rw [show (⟨#[71]⟩ : Str) = Str.ofString "G" from by decide +kernel]; exact F
section
variable {a1 a2 a3 a4 a5 : Addr} {o1 o2 o3 o4 o5 : Obj} {rows own rest : List (Addr × Obj)}
theorem endP1 (er : rest = rows ++ own) : ∀ p ∈ (a1, o1) :: (a2, o2) :: (a3, o3) :: (a4, o4) :: (a5, o5) :: rows, p ∈ (a1, o1) :: (a2, o2) :: (a3, o3) :: (a4, o4) :: (a5, o5) :: rest := by
  intro p hp
  have up : p ∈ rows → p ∈ rest := fun h => by rw [er]; exact List.mem_append.mpr (.inl h)
  simp only [List.mem_cons] at hp ⊢
  rcases hp with h | h | h | h | h | h
  · exact .inl h
  · exact .inr (.inl h)
  · exact .inr (.inr (.inl h))
  · exact .inr (.inr (.inr (.inl h)))
  · exact .inr (.inr (.inr (.inr (.inl h))))
  · exact .inr (.inr (.inr (.inr (.inr (up h)))))
theorem endP2 (er : rest = rows ++ own) : ∀ p ∈ own, p ∈ (a1, o1) :: (a2, o2) :: (a3, o3) :: (a4, o4) :: (a5, o5) :: rest := fun p hp => by
  have : p ∈ rest := by rw [er]; exact List.mem_append.mpr (.inr hp)
  exact .tail _ (.tail _ (.tail _ (.tail _ (.tail _ this))))
end
end

section
open PySem PySem.W PyProof.Rows PySem.Flt
set_option Elab.async false
set_option maxRecDepth 100000
theorem off1_mem {D : Addr} : ∀ {l : List (Addr × Obj)}, LCg.Off1 D l → ∀ p ∈ l, p.1 ≠ D
  | [], _, _, h => nomatch h
  | _ :: _, ⟨a, b⟩, p, h => by
    rcases List.mem_cons.mp h with rfl | h
    · exact a
    · exact off1_mem b p h
section
variable {a1 a2 a3 a4 a5 D : Addr} {o1 o1' o2 o3 o4 o5 oD : Obj} {rows own rest : List (Addr × Obj)}
theorem endP3 (er : rest = rows ++ own) (e : o1 = o1') : ∀ p ∈ (a1, o1) :: (a2, o2) :: (a3, o3) :: (a4, o4) :: (a5, o5) :: (D, oD) :: rows, p ∈ (D, oD) :: (a1, o1') :: (a2, o2) :: (a3, o3) :: (a4, o4) :: (a5, o5) :: rest := by
  intro p hp
  subst e
  have up : p ∈ rows → p ∈ rest := fun h => by rw [er]; exact List.mem_append.mpr (.inl h)
  simp only [List.mem_cons] at hp ⊢
  rcases hp with h | h | h | h | h | h | h
  · exact .inr (.inl h)
  · exact .inr (.inr (.inl h))
  · exact .inr (.inr (.inr (.inl h)))
  · exact .inr (.inr (.inr (.inr (.inl h))))
  · exact .inr (.inr (.inr (.inr (.inr (.inl h)))))
  · exact .inl h
  · exact .inr (.inr (.inr (.inr (.inr (.inr (up h))))))
theorem endP4 (er : rest = rows ++ own) : ∀ p ∈ own, p ∈ (D, oD) :: (a1, o1) :: (a2, o2) :: (a3, o3) :: (a4, o4) :: (a5, o5) :: rest := fun p hp => by
  have : p ∈ rest := by rw [er]; exact List.mem_append.mpr (.inr hp)
  exact .tail _ (.tail _ (.tail _ (.tail _ (.tail _ (.tail _ this)))))
theorem endP5 (er : rest = rows ++ own) (ho : OwnOff own (((a1, o1') :: (a2, o2) :: (a3, o3) :: (a4, o4) :: (a5, o5) :: rows).map (·.1))) {o2' : Obj} (hD : ∀ p ∈ (a1, o1') :: (a2, o2') :: (a3, o3) :: (a4, o4) :: (a5, o5) :: rest, p.1 ≠ D) {o2'' : Obj} :
    OwnOff own (((a1, o1) :: (a2, o2'') :: (a3, o3) :: (a4, o4) :: (a5, o5) :: (D, oD) :: rows).map (·.1)) := by
  intro p hp a ha
  simp only [List.map_cons, List.mem_cons] at ha
  have h1 : p ∈ rest := by rw [er]; exact List.mem_append.mpr (.inr hp)
  have h2 := hD p (.tail _ (.tail _ (.tail _ (.tail _ (.tail _ h1)))))
  rcases ha with rfl | rfl | rfl | rfl | rfl | rfl | ha
  · exact ho p hp _ (.head _)
  · exact ho p hp _ (.tail _ (.head _))
  · exact ho p hp _ (.tail _ (.tail _ (.head _)))
  · exact ho p hp _ (.tail _ (.tail _ (.tail _ (.head _))))
  · exact ho p hp _ (.tail _ (.tail _ (.tail _ (.tail _ (.head _)))))
  · exact h2
  · exact ho p hp _ (.tail _ (.tail _ (.tail _ (.tail _ (.tail _ ha)))))
end
end

section
open PySem PySem.W PyProof.Rows PySem.Flt
set_option Elab.async false
set_option maxRecDepth 100000
theorem datInts {news : List (Addr × Obj)} : ∀ {us : List Value} {r : List Int}, IntsAre us r → DatAll news us (r.map Dat.int)
  | _, _, .nil => .nil
  | _, _, .cons i t h => .cons (.int _ _) (datInts h)
theorem datRows {news : List (Addr × Obj)} : ∀ {vs : List Value} {rs : List (List Int)}, RowsIn news vs rs → DatAll news vs (rs.map fun r => Dat.list (r.map Dat.int))
  | [], [], _ => .nil
  | _ :: _, _ :: _, ⟨⟨a, us, n, e, m, i⟩, r⟩ => by subst e; exact .cons (.list m (datInts i)) (datRows r)
  | [], _ :: _, x => x.elim
  | _ :: _, [], x => x.elim
theorem okRows (rs : List (List Int)) : ∀ d ∈ rs.map (fun r => Dat.list (r.map Dat.int)), kqdOk 8 d = true := by
  intro d hd
  obtain ⟨r, _, rfl⟩ := List.mem_map.mp hd
  unfold kqdOk
  refine List.all_eq_true.mpr fun x hx => ?_
  obtain ⟨i, _, rfl⟩ := List.mem_map.mp hx
  rfl
theorem ne_rows {prog : Program} {w : World} {A : Around} {E : Value → Shared → Prop} {s : Shared} {h₀ : Heap} {L a b : Addr} {news : List (Addr × Obj)} {fv dv : List Value} {na nb : Nat} {R : List (List Int)} {Q : Value → Shared → Prop}
    (N : News h₀ L s.heap news) (ma : (a, listOf fv.toArray na) ∈ news) (Ra : RowsIn news fv R) (mb : (b, listOf dv.toArray nb) ∈ news) (Rb : RowsIn news dv R) (hu : A.units + 64 < cLine) (h : Q (.bool false) s) :
    wpAny (model prog w) A (compareOp .NotEq (.ref a) (.ref b)) Q E s := by
  refine kqd_ne N ma rfl rfl (datRows Ra) (fun _ h => h) mb rfl rfl (datRows Rb) (fun _ h => h) (okRows _) (okRows _) hu ?_
  classical
  rw [decide_eq_true rfl]; exact h
theorem dig_isX (u : Bool) (d : Nat) (h : d < 16) : isX (dig u d) = true ∧ figV (dig u d) = (d : Int) ∧ dig u d ≠ 35 := by
  revert d u; decide +kernel
theorem edge_off (e : Nat) : isX (edgeC e) = false ∧ (edgeC e == 35) = false := by
  unfold edgeC
  split
  · exact ⟨by decide, by decide⟩
  · rename_i h
    have k : ∀ e : Nat, e < 103 → hexs.contains e = false → isX e = false ∧ (e == 35) = false := by decide +kernel
    by_cases h1 : e < 103
    · exact k e h1 (Bool.eq_false_iff.mpr h)
    · refine ⟨?_, ?_⟩
      · unfold isX; exact decide_eq_false (by lia)
      · exact beq_false_of_ne (by lia)
theorem word_isX (b g : Nat) : ∀ n, ∀ c ∈ wordL b g n, isX c = true ∧ c ≠ 35
  | 0, _, h => nomatch h
  | n + 1, c, h => by
    rcases List.mem_cons.mp h with rfl | h
    · have := dig_isX (g / 2 ^ n % 2 == 1) (b / 16 ^ n % 16) (Nat.mod_lt _ (by decide))
      exact ⟨this.1, this.2.2⟩
    · exact word_isX b g n c h
theorem word_figs (b g : Nat) : ∀ n, (wordL b g n).map figV = (List.range n).map fun k => ((b / 16 ^ (n - 1 - k) % 16 : Nat) : Int)
  | 0 => rfl
  | n + 1 => by
    rw [List.range_succ_eq_map, List.map_cons, List.map_map]
    show figV _ :: (wordL b g n).map figV = _
    rw [word_figs b g n, (dig_isX _ _ (Nat.mod_lt _ (by decide))).2.1]
    congr 1
    refine List.map_congr_left fun k _ => ?_
    show _ = ((b / 16 ^ (n + 1 - 1 - (k + 1)) % 16 : Nat) : Int)
    rw [show n + 1 - 1 - (k + 1) = n - 1 - k by lia]
theorem fold_in (z : Nat) (f : List (List Int)) : ∀ (l : List Nat) (r : List Int), (∀ c ∈ l, isX c = true ∧ c ≠ 35) → l.foldl (rstep z) ⟨f, r, true⟩ = ⟨f, r ++ l.map figV, true⟩
  | [], r, _ => by simp
  | c :: l, r, h => by
    rw [List.foldl_cons]
    have e : rstep z ⟨f, r, true⟩ c = ⟨f, r ++ [figV c], true⟩ := by
      unfold rstep; rw [if_pos (by rw [(h c (.head _)).1]; rfl)]
    rw [e, fold_in z f l _ fun x hx => h x (.tail _ hx)]
    simp
theorem fold_out (z : Nat) (f : List (List Int)) : ∀ (l : List Nat), (∀ c ∈ l, isX c = true ∧ c ≠ 35) → l.foldl (rstep z) ⟨f, [], false⟩ = ⟨f, [], false⟩
  | [], _ => rfl
  | c :: l, h => by
    rw [List.foldl_cons]
    have e : rstep z ⟨f, [], false⟩ c = ⟨f, [], false⟩ := by
      unfold rstep
      rw [if_neg (by simp)]
      simp [(h c (.head _)).2]
    rw [e, fold_out z f l fun x hx => h x (.tail _ hx)]
theorem step_hash (z : Nat) (f : List (List Int)) : rstep z ⟨f, [], false⟩ 35 = ⟨f, [], true⟩ := by
  unfold rstep; rw [if_neg (by simp)]; simp
theorem step_edge (z : Nat) (f : List (List Int)) (r : List Int) (e : Nat) : rstep z ⟨f, r, true⟩ (edgeC e) = ⟨if r.length = z then f ++ [r] else f, [], false⟩ := by
  unfold rstep
  rw [if_neg (by rw [(edge_off e).1]; simp), (edge_off e).2]
  by_cases h : r.length = z <;> simp [h]
theorem step_edge0 (z : Nat) (f : List (List Int)) (e : Nat) : rstep z ⟨f, [], false⟩ (edgeC e) = ⟨f, [], false⟩ := by
  unfold rstep
  rw [if_neg (by simp), (edge_off e).2]
  simp
theorem fold_hash (z : Nat) (f : List (List Int)) : [35].foldl (rstep z) ⟨f, [], false⟩ = ⟨f, [], true⟩ := step_hash z f
theorem fold_edge (z : Nat) (f : List (List Int)) (r : List Int) (e : Nat) : [edgeC e].foldl (rstep z) ⟨f, r, true⟩ = ⟨if r.length = z then f ++ [r] else f, [], false⟩ := step_edge z f r e
theorem fold_edge0 (z : Nat) (f : List (List Int)) (e : Nat) : [edgeC e].foldl (rstep z) ⟨f, [], false⟩ = ⟨f, [], false⟩ := step_edge0 z f e
theorem read_part (z V X : Nat) (hz : 1 ≤ z) (f : List (List Int)) : (pageOf z V X).foldl (rstep z) ⟨f, [], false⟩ = ⟨f ++ dueOf z V X, [], false⟩ := by
  have hw := word_isX (X % V) (X / V / 5 % 512) z
  have hl := wordL_length (X % V) (X / V / 5 % 512) z
  have hf := word_figs (X % V) (X / V / 5 % 512) z
  unfold pageOf dueOf
  dsimp only
  generalize wordL (X % V) (X / V / 5 % 512) z = wl at hw hl hf
  split
  · rw [List.foldl_append, fold_out z f wl hw, fold_edge0, List.append_nil]
  · split
    · rw [List.foldl_append, List.foldl_append, fold_hash, fold_in z f wl.dropLast [] fun c hc => hw c (List.dropLast_subset _ hc), fold_edge, List.append_nil]
      rw [if_neg (by simp only [List.nil_append, List.length_map, List.length_dropLast]; lia)]
    · split
      · have hh : ∀ c ∈ [wl.headD 0], isX c = true ∧ c ≠ 35 := by
          intro c hc
          rw [List.mem_singleton.mp hc]
          match wl, hl, hw with
          | [], hl, _ => simp at hl; lia
          | a :: _, _, hw => exact hw a (.head _)
        rw [List.foldl_append, List.foldl_append, List.foldl_append, fold_hash, fold_in z f wl [] hw, fold_in z f _ _ hh, fold_edge, List.append_nil]
        rw [if_neg (by simp only [List.nil_append, List.length_map, List.length_append, List.length_cons, List.length_nil]; lia)]
      · rw [List.foldl_append, List.foldl_append, fold_hash, fold_in z f wl [] hw, fold_edge, List.nil_append]
        rw [if_pos (by rw [List.length_map, hl]), hf]
        unfold figsOf
        rw [List.map_map]
        rfl
theorem read_page (z V : Nat) (hz : 1 ≤ z) (xs : List Nat) : (readL z (pageL z V xs)).found = dueL z V xs := by
  have go : ∀ (xs : List Nat) (f : List (List Int)), (pageL z V xs).foldl (rstep z) ⟨f, [], false⟩ = ⟨f ++ dueL z V xs, [], false⟩ := by
    intro xs
    induction xs with
    | nil => intro f; simp [pageL, dueL]
    | cons X xs ih =>
      intro f
      show (pageOf z V X ++ pageL z V xs).foldl (rstep z) _ = ⟨f ++ (dueOf z V X ++ dueL z V xs), [], false⟩
      rw [List.foldl_append, read_part z V X hz, ih, List.append_assoc]
  unfold readL
  rw [go, List.nil_append]
end

section
open PySem PySem.W PyProof.Rows PySem.Flt
set_option Elab.async false
set_option maxRecDepth 100000
theorem RowsIn.get {led : List (Addr × Obj)} : ∀ {vs : List Value} {rs : List (List Int)}, RowsIn led vs rs → ∀ (i : Nat) v, vs[i]? = some v → ∃ a us n r, v = .ref a ∧ (a, listOf us.toArray n) ∈ led ∧ IntsAre us r ∧ r ∈ rs
  | [], _, _, _, _, h => by simp at h
  | _ :: _, [], x, _, _, _ => x.elim
  | _ :: _, r :: _, ⟨⟨a, us, n, e, m, i⟩, _⟩, 0, v, h => ⟨a, us, n, r, (Option.some.inj h).symm.trans e, m, i, .head _⟩
  | _ :: _, _ :: _, ⟨_, t⟩, i + 1, v, h => by
    obtain ⟨a, us, n, r, e, m, k, q⟩ := RowsIn.get t i v h
    exact ⟨a, us, n, r, e, m, k, .tail _ q⟩
/-- a due row: `z` figures below sixteen -/
def Figs (z : Nat) (r : List Int) : Prop := r.length = z ∧ ∀ x ∈ r, 0 ≤ x ∧ x < 16
theorem due_figs {z V : Nat} {xs : List Nat} {r : List Int} (h : r ∈ dueL z V xs) : Figs z r := by
  unfold dueL at h
  obtain ⟨X, _, h⟩ := List.mem_flatMap.mp h
  unfold dueOf at h
  split at h
  · cases h
  · split at h
    · cases h
    · split at h
      · cases h
      · rw [List.mem_singleton.mp h]
        refine ⟨by simp [figsOf], fun x hx => ?_⟩
        unfold figsOf at hx
        rw [List.map_map] at hx
        obtain ⟨k, _, rfl⟩ := List.mem_map.mp hx
        show 0 ≤ ((X % V / 16 ^ (z - 1 - k) % 16 : Nat) : Int) ∧ ((X % V / 16 ^ (z - 1 - k) % 16 : Nat) : Int) < 16
        lia
theorem worth_nat : ∀ (l : List Int) (k : Nat) (a : Nat), (∀ x ∈ l, 0 ≤ x ∧ x < 16) → ∃ b : Nat, l.foldl (fun a n => 16 * a + n) (a : Int) = (b : Int) ∧ b < 16 ^ l.length * (a + 1)
  | [], k, a, _ => ⟨a, rfl, by simp⟩
  | x :: l, k, a, h => by
    have hx := h x (.head _)
    obtain ⟨b, e, hb⟩ := worth_nat l k (16 * a + x.toNat) fun y hy => h y (.tail _ hy)
    refine ⟨b, ?_, ?_⟩
    · rw [List.foldl_cons, ← e]; congr 1; lia
    · refine Nat.lt_of_lt_of_le hb ?_
      rw [List.length_cons, Nat.pow_succ, Nat.mul_assoc]
      exact Nat.mul_le_mul_left _ (by lia)
theorem worth_lt {l : List Int} {wd U : Nat} (hU : U = 16 ^ wd) (hl : l.length ≤ wd) (h : ∀ x ∈ l, 0 ≤ x ∧ x < 16) : ∃ b : Nat, l.foldl (fun a n => 16 * a + n) 0 = (b : Int) ∧ b < U := by
  obtain ⟨b, e, hb⟩ := worth_nat l 0 0 h
  refine ⟨b, e, Nat.lt_of_lt_of_le hb ?_⟩
  rw [hU, Nat.zero_add, Nat.mul_one]
  exact Nat.pow_le_pow_right (by decide) hl
end

section
open PySem PySem.W PyProof.Rows PySem.Flt
set_option Elab.async false
set_option maxRecDepth 100000
section
variable {prog : Program} {w : World} {A : Around} {E : Value → Shared → Prop} {s : Shared} {h₀ : Heap} {L l : Addr} {m : Str → Option Value} {news : List (Addr × Obj)} {value slice : PySem.Expr} {us : List Value} {nu wd : Nat} {r : List Int} {t1 t2 : Tok} {Q : Value → Shared → Prop}
theorem cutA (F : Fr h₀ L s.heap m) (N : News h₀ L s.heap news) (hm : (l, listOf us.toArray nu) ∈ news) (hI : IntsAre us r) (hl : r.length ≤ 100)
    (h : ∀ D ws h', Fr h₀ L h' m → News h₀ L h' ((D, listOf (List.toArray ws) 0) :: news) → (∀ p ∈ news, p.1 < D) → IntsAre ws (r.take wd) → Q (.ref D) { s with heap := h' })
    (hs : subscripted slice false (.ref l) (.ref s.heap.objs.size) = operate [.ref s.heap.objs.size, .ref l] (getItem (.ref l) (.ref s.heap.objs.size)) := by with_unfolding_all rfl) (ht : ∀ r, letTemporaryGo value (.ref l) r = pure () := by intro _; with_unfolding_all rfl) :
    wpAny (model prog w) A (subscriptTail value slice (.ref l) (.ref s.heap.objs.size)) Q E { s with heap := s.heap.push { cls := .type "slice", data := .fields #[.none, .int (wd : Int) t1, .none] } } :=
  kmk_slice_ints F N ⟨_, (N _ hm).1, rfl, nu, rfl⟩ .none (.int _ _) hI (kmk_upto hI (y := (wd : Int)) (by lia)) rfl (fun D ws h' F' N' l1 h1 _ _ => h D ws h' F' N' l1 (by rw [Int.toNat_natCast] at h1; exact h1)) hs ht
    (by rw [List.size_toArray, hI.length, sizeLine_eq]; lia)
theorem cutB (F : Fr h₀ L s.heap m) (N : News h₀ L s.heap news) (hm : (l, listOf us.toArray nu) ∈ news) (hI : IntsAre us r) (hl : r.length ≤ 100) {y : Int} (hy : y = 2 * (wd : Int))
    (h : ∀ D ws h', Fr h₀ L h' m → News h₀ L h' ((D, listOf (List.toArray ws) 0) :: news) → (∀ p ∈ news, p.1 < D) → IntsAre ws ((r.drop wd).take (min (2 * wd) r.length - wd)) → Q (.ref D) { s with heap := h' })
    (hs : subscripted slice false (.ref l) (.ref s.heap.objs.size) = operate [.ref s.heap.objs.size, .ref l] (getItem (.ref l) (.ref s.heap.objs.size)) := by with_unfolding_all rfl) (ht : ∀ r, letTemporaryGo value (.ref l) r = pure () := by intro _; with_unfolding_all rfl) :
    wpAny (model prog w) A (subscriptTail value slice (.ref l) (.ref s.heap.objs.size)) Q E { s with heap := s.heap.push { cls := .type "slice", data := .fields #[.int (wd : Int) t1, .int y t2, .none] } } :=
  kmk_slice_ints F N ⟨_, (N _ hm).1, rfl, nu, rfl⟩ (.int _ _) (.int _ _) hI (kmk_run hI (x := (wd : Int)) (y := y) (by lia) (by lia)) rfl (fun D ws h' F' N' l1 h1 _ _ => h D ws h' F' N' l1 (by rw [Int.toNat_natCast, show y.toNat = 2 * wd from by lia] at h1; exact h1)) hs ht
    (by rw [List.size_toArray, hI.length, sizeLine_eq]; lia)
theorem cutC (F : Fr h₀ L s.heap m) (N : News h₀ L s.heap news) (hm : (l, listOf us.toArray nu) ∈ news) (hI : IntsAre us r) (hl : r.length ≤ 100) {y : Int} (hy : y = 2 * (wd : Int))
    (h : ∀ D ws h', Fr h₀ L h' m → News h₀ L h' ((D, listOf (List.toArray ws) 0) :: news) → (∀ p ∈ news, p.1 < D) → IntsAre ws (r.drop (2 * wd)) → Q (.ref D) { s with heap := h' })
    (hs : subscripted slice false (.ref l) (.ref s.heap.objs.size) = operate [.ref s.heap.objs.size, .ref l] (getItem (.ref l) (.ref s.heap.objs.size)) := by with_unfolding_all rfl) (ht : ∀ r, letTemporaryGo value (.ref l) r = pure () := by intro _; with_unfolding_all rfl) :
    wpAny (model prog w) A (subscriptTail value slice (.ref l) (.ref s.heap.objs.size)) Q E { s with heap := s.heap.push { cls := .type "slice", data := .fields #[.int y t1, .none, .none] } } :=
  kmk_slice_ints F N ⟨_, (N _ hm).1, rfl, nu, rfl⟩ (.int _ _) .none hI (kmk_from hI (x := y) (by lia)) rfl (fun D ws h' F' N' l1 h1 _ _ => h D ws h' F' N' l1 (by rw [show y.toNat = 2 * wd from by lia] at h1; exact h1)) hs ht
    (by rw [List.size_toArray, hI.length, sizeLine_eq]; lia)
theorem mulD {t u : Tok} (h : Q (.int (2 * (wd : Int)) s.toks) { s with toks := s.toks + 1 }) : wpAny (model prog w) A (binaryOp .Mult (.int 2 t) (.int (wd : Int) u)) Q E s :=
  PyProof.Rows.mul_int h (.of_left (by decide))
end
theorem worthN {w mean mg mb news} {l : Addr} {vs : List Value} {nn a : Nat} {ns : List Int} (hl : (l, listOf vs.toArray nn) ∈ news) (hi : IntsAre vs ns) (e : ns.foldl (fun a n => 16 * a + n) 0 = (a : Int)) :
    Con0 w mean mg mb 98 1 8 [.ref l] news (fun t => .int (a : Int) t) := by
  rw [← e]; exact worth hl hi
/-- the three parts of a row -/
theorem three_parts {r : List Int} {z wd U : Nat} (hF : Figs z r) (hz : z = 3 * wd) (hU : U = 16 ^ wd) :
    ∃ a b c : Nat, (r.take wd).foldl (fun a n => 16 * a + n) 0 = (a : Int) ∧ ((r.drop wd).take (min (2 * wd) r.length - wd)).foldl (fun a n => 16 * a + n) 0 = (b : Int) ∧ (r.drop (2 * wd)).foldl (fun a n => 16 * a + n) 0 = (c : Int) ∧ a < U ∧ b < U ∧ c < U := by
  obtain ⟨hl, hx⟩ := hF
  obtain ⟨a, e1, l1⟩ := worth_lt (l := r.take wd) hU (by rw [List.length_take]; lia) fun x h => hx x (List.mem_of_mem_take h)
  obtain ⟨b, e2, l2⟩ := worth_lt (l := (r.drop wd).take (min (2 * wd) r.length - wd)) hU (by rw [List.length_take]; lia) fun x h => hx x (List.mem_of_mem_drop (List.mem_of_mem_take h))
  obtain ⟨c, e3, l3⟩ := worth_lt (l := r.drop (2 * wd)) hU (by rw [List.length_drop]; lia) fun x h => hx x (List.mem_of_mem_drop h)
  exact ⟨a, b, c, e1, e2, e3, l1, l2, l3⟩
end

section
open PySem PySem.W PyProof.Rows PySem.Flt
set_option Elab.async false
set_option maxRecDepth 100000
set_option maxHeartbeats 2000000
set_option pp.deepTerms false
theorem offS10 : True := by
  w_top off
  k_with_none
  exact trivial
local macro_rules | `(tactic| walk_at "binaryOp Add str str") => `(tactic| (k_here; k_dflt (refine' addS ?x1 ?x2 ?x3 ?_; (case x1 => first | exact hashL | exact rfl); (case x2 => exact rfl); (case x3 => (simp only [List.length_append, List.length_cons, List.length_nil, List.length_dropLast]; omega))); intro t' tk'; (try dsimp only)))
local macro_rules | `(tactic| walk_at "inplaceOp Add str str") => `(tactic| (k_here; k_dflt (refine' iaddS ?x1 ?x2 ?x3 ?_; (case x1 => exact rfl); (case x2 => exact rfl); (case x3 => (simp only [List.length_append, List.length_cons, List.length_nil, List.length_dropLast]; omega))); intro t' tk'; (try dsimp only)))
local macro_rules | `(tactic| walk_at "subscriptTail") => `(tactic| (k_here; k_dflt (first | (refine' sliceM ?x1 ?x2 ?x3 ?x4 ?_; (case x1 => k_asm); (case x2 => k_asm); (case x3 => omega); (case x4 => omega); intro h' t' tk' F' N'; (try dsimp only)) | (refine' itemS0 ?x3 ?x4 ?_; (case x3 => omega); (case x4 => omega); (try dsimp only)))))
local macro_rules | `(tactic| k_all) => `(tactic| assumption)
theorem said12 : True := by
  k_with "mine steps" => (repeat' (first | (k_unfold; (try dsimp only)) | (k_end; kc_close) | ((fail_if_success (with_reducible show wpAny _ _ (exec (PySem.Stmt.For _ _ _ _ _) _) _ _ _)); (fail_if_success (with_reducible show wpAny _ _ (pyIter _) _ _ _)); (fail_if_success (with_reducible show wpAny _ _ (eval (PySem.Expr.ListComp _ _ _ _) _) _ _ _)); first | walk1 | (dsimp only; walk1) | (leave1; walk_say "STEP leave1"; (try dsimp only))) | fail "no step"))
  k_with "mine toIf" => (repeat' (first | (k_unfold; (try dsimp only)) | (k_end; kc_close) | ((fail_if_success (with_reducible show wpAny _ _ (exec (PySem.Stmt.If _ _ _ _) _) _ _ _)); first | walk1 | (dsimp only; walk1) | (leave1; walk_say "STEP leave1"; (try dsimp only))) | fail "no step"))
  k_with "binaryOp Pow int int" => ((k_here; (first | refine pow3 (by assumption) (by assumption) ?_ | refine powY (by assumption) (by omega) ?_); (try dsimp only)))
  k_with "binaryOp FloorDiv int int" => ((k_here; (first | refine fdivN rfl (by assumption) (by assumption) ?_ | refine fdivN (b := 5) rfl (by decide) (by decide) ?_ | refine fdivN (b := 2560) rfl (by decide) (by decide) ?_); (try dsimp only)))
  k_with "binaryOp Mod int int" => ((k_here; (first | refine fmodN rfl (by assumption) (by assumption) ?_ | refine fmodN (b := 512) rfl (by decide) (by decide) ?_ | refine fmodN (b := 55296) rfl (by decide) (by decide) ?_ | refine fmodN (b := 5) rfl (by decide) (by decide) ?_ | refine fmodN (b := 16) rfl (by decide) (by decide) ?_); (try dsimp only)))
  k_with "binaryOp Add int int" => ((k_here; refine add32 rfl ?_; (try dsimp only)))
  k_with "call ref" => (first | cell_ask (word _ _ _ rfl rfl rfl (by assumption)))
  k_with "subscriptTail Name Slice str ref" => (walk_at "subscriptTail")
  k_with "subscriptTail Name Constant str int" => (walk_at "subscriptTail")
  k_with "mine toSrc" => (repeat' (first | (k_unfold; (try dsimp only)) | ((fail_if_success (with_reducible show LCg.CompSrc _ _ _ _ _ _ _ _ _ _ _ _ _ _)); first | walk1 | (dsimp only; walk1)) | fail "no step"))
  k_with "mine a3" => ((intro p hp; rw [List.mem_singleton.mp hp]; with_unfolding_all rfl))
  k_with "mine a4" => ((intro z' z1 z2 z3; (have z4 := z2 _ (.head _)); (have z5 : z' ≠ Str.ofString "rest" := fun e => by subst e; revert z3; decide +kernel); (have z6 : z' ≠ Str.ofString "word" := fun e => by subst e; revert z3; decide +kernel); (have z7 : z' ≠ Str.ofString "edge" := fun e => by subst e; revert z3; decide +kernel); (dsimp only at z4); (simp only [kstB, if_neg z1, if_neg z4, if_neg z5, if_neg z6, if_neg z7, z3, Bool.false_eq_true, if_false])))
  exact trivial
noncomputable def st2 : { T : Prop // T → PySem.Challenge.rw_mj0073_01.Holds } := ⟨Wrap _, fun walk => by
  refine st1.2 (Wrap.mk ?_)
  k_fill
  intro w s₀ s₁ mg mb fa o pm doc X0 T0 w12 w11 w10 w9 ns w7 w6 l vs w3 h₁ tk₁ c1 c2 c3 hlen' m0 v1 e1 v2 v3 B1 wd hw1 hw3 U hU z hz hU4 hU16 la ha1 D4 wsa ha2 ta ha3 tka ha4 oU dUa tkb ha5 oZ dZa tkc D3 ha6 D2 ha7 D1 ha8 D0 ha9 lf hb1 hb2 tkd D8 D5 h5 tk5 wk wsb g8 yk yb D9' hb3 tke Dn wn hb4 hIn hb5 tkp hb6 ld hb7 h6 F6 tk N7 r1 r2 tU dU tZ dZ
  clear dUa dZa g8
  replace r1 : @LT.lt Nat _ Dn ld := r1
  -- the loop over the numbers
  obtain ⟨V, hV⟩ : ∃ V : Nat, V = U ^ 3 := ⟨_, rfl⟩
  have hV0 : 0 < V := by rw [hV]; exact Nat.pow_pos (by omega)
  have hV100 : V < 2 ^ 100 := by
    rw [hV]; exact Nat.lt_of_le_of_lt (Nat.pow_le_pow_left hU4 3) (by decide)
  have hz9 : z ≤ 9 := by omega
  refine for_inv F6 (by rfl) (by rfl) ?_
  walk_at "mine steps"
  have hnum := numsN_length U ns
  have hwnl : wn.length = (numsN U ns).length := by rw [hIn.length, List.length_map]
  generalize numsN U ns = xs at hIn hnum hwnl
  refine' loop_list (σ := PSt) (fun c => (ld, listOf c.dv.toArray c.nd) :: (s₁.heap.objs.size + 1 + 1 + 1, c.cb) :: (Dn, listOf wn.toArray 0) :: (s₁.heap.objs.size + 1 + 1, oZ) :: (s₁.heap.objs.size + 1, oU) :: c.rows)
    (fun c => [(Str.ofString "page", .str ⟨c.pl.toArray⟩ c.tp)]) [Str.ofString "rest", Str.ofString "word", Str.ofString "edge"]
    (fun i c => c.pl = pageL z V (xs.take i) ∧ RowsIn c.rows c.dv (dueL z V (xs.take i)) ∧ c.dv.length ≤ i ∧ c.pl.length ≤ 20 * i ∧ (∃ q, c.cb.data = .cell q) ∧ (∀ p ∈ c.rows, @Ne Nat p.1 ld ∧ @Ne Nat p.1 (s₁.heap.objs.size + 1 + 1 + 1)))
    ⟨[], _, [], 0, [], c1⟩ rfl F6 (fun p hp => N7 p ?k0) rfl (fun c => .tail _ (.tail _ (.head _))) ?k1 ⟨rfl, trivial, Nat.le_refl _, Nat.le_refl _, ⟨_, e1⟩, (fun _ h => nomatch h)⟩ ?k2 ?k3
  case k0 =>
    revert p
    lcg_sub
  case k1 =>
    intro p hp
    rcases List.mem_singleton.mp hp with rfl
    with_unfolding_all rfl
  case k2 =>
    rintro ⟨pl, tp, dv, nd, rows, cb⟩ i v u h tk own hv hoff ⟨hpl, hdue, hdl, hpll, ⟨q, hcb⟩, hrows⟩ F8 N8
    dsimp only at F8 N8 hoff hpl hdue hdl hpll hcb hrows
    have hi : i < xs.length := by rw [← hwnl]; exact (List.getElem?_eq_some_iff.mp hv).1
    obtain ⟨X, hX⟩ : ∃ X, xs[i]? = some X := ⟨_, List.getElem?_eq_getElem hi⟩
    obtain ⟨t, rfl⟩ : ∃ t, v = .int (X : Int) t := by
      obtain ⟨t, h⟩ := hIn.get i (X : Int) (by rw [List.getElem?_map, hX]; rfl)
      rw [h] at hv; exact ⟨t, (Option.some.inj hv).symm⟩
    obtain ⟨rest, er⟩ : ∃ rest, rest = rows ++ own := ⟨_, rfl⟩
    simp only [List.cons_append, ← er] at N8
    replace F8 : Fr s₁.heap s₁.heap.objs.size h _ := F8
    replace N8 : News s₁.heap s₁.heap.objs.size h _ := N8
    have s1 : ∀ p ∈ rest, p.1 ≠ ld := by
      intro p hp
      rw [er] at hp
      rcases List.mem_append.mp hp with hp | hp
      · exact (hrows p hp).1
      · exact hoff p hp _ (.head _)
    have s2 : ∀ p ∈ rest, p.1 ≠ s₁.heap.objs.size + 1 + 1 + 1 := by
      intro p hp
      rw [er] at hp
      rcases List.mem_append.mp hp with hp | hp
      · exact (hrows p hp).2
      · exact hoff p hp _ (.tail _ (.head _))
    have i9 : i ≤ 9 := by omega
    walk_at "mine toIf"
    rename Fr _ _ _ _ => F9
    rename News _ _ _ _ => N9
    rename (Obj.data _ = Data.cell (some (Value.int ((X % V : Nat) : Int) _))) => d9
    simp only [Int.toNat_natCast] at F9
    refine join_edge ((32 + X / V / 2560) % 55296) F9 N9 ?j1 ?j2
    case j1 =>
      walk_at "mine steps"
      · rename (List.isEmpty _ = true) => hq
        rw [hexIn] at hq
        exact EdgeEnd.same (by with_unfolding_all rfl) ((Bool.not_eq_true' _).mp hq) (by assumption) (by assumption)
      · rename (List.isEmpty _ = false) => hq
        rw [hexIn] at hq
        exact EdgeEnd.G ((Bool.not_eq_false' _).mp hq) (by assumption) (by assumption)
    case j2 =>
      intro c t0 h0 tk0 hc F10 N10
      clear F9 N9
      dsimp only
      have hwl := wordL_length (X % V) (X / V / 5 % 512) z
      have hpo : pageOf z V X = (let wl := wordL (X % V) (X / V / 5 % 512) z; if X / V % 5 = 2 then wl ++ [c] else if X / V % 5 = 3 then [35] ++ wl.dropLast ++ [c] else if X / V % 5 = 4 then [35] ++ wl ++ [wl.headD 0] ++ [c] else [35] ++ wl ++ [c]) := by rw [hc]; rfl
      generalize wordL (X % V) (X / V / 5 % 512) z = wl at F10 hwl hpo
      dsimp only at hpo
      have hz3 : 3 ≤ z := by omega
      walk_at "mine steps"
      · rename Fr _ _ _ _ => F12
        rename News _ _ _ _ => N12
        rename (((X / V % 5 : Nat) : Int) = 2) => q2
        have hpo2 : pageOf z V X = wl ++ [c] := by rw [hpo, if_pos (by omega)]
        have hdu2 : dueOf z V X = [] := by unfold dueOf; rw [if_pos (by omega)]
        refine' turn_end (⟨pl ++ (wl ++ [c]), _, dv, nd, rows, _⟩ : PSt) F12 N12 ?a1 ?a2 ?a0 ?a3 ?a4 ?a5
        case a1 => exact endP1 er
        case a2 => exact endP2 er
        case a0 => exact hoff
        case a3 => walk_at "mine a3"
        case a4 => walk_at "mine a4"
        case a5 =>
          refine ⟨?_, ?_, Nat.le_succ_of_le hdl, ?_, ⟨_, d9⟩, hrows⟩
          · show pl ++ _ = _
            rw [pageL_succ hX, ← hpl, hpo2]
          · show RowsIn rows dv _
            rw [dueL_succ hX, hdu2, List.append_nil]; exact hdue
          · show (pl ++ _).length ≤ _
            simp only [List.length_append, List.length_cons, List.length_nil, List.length_dropLast]; omega
      · rename Fr _ _ _ _ => F12
        rename News _ _ _ _ => N12
        rename (((X / V % 5 : Nat) : Int) = 3) => q3
        have hpo2 : pageOf z V X = [35] ++ wl.dropLast ++ [c] := by rw [hpo, if_neg (by omega), if_pos (by omega)]
        have hdu2 : dueOf z V X = [] := by unfold dueOf; rw [if_neg (by omega), if_pos (by omega)]
        refine' turn_end (⟨pl ++ ([35] ++ wl.dropLast ++ [c]), _, dv, nd, rows, _⟩ : PSt) F12 N12 ?a1 ?a2 ?a0 ?a3 ?a4 ?a5
        case a1 => exact endP1 er
        case a2 => exact endP2 er
        case a0 => exact hoff
        case a3 => walk_at "mine a3"
        case a4 => walk_at "mine a4"
        case a5 =>
          refine ⟨?_, ?_, Nat.le_succ_of_le hdl, ?_, ⟨_, d9⟩, hrows⟩
          · show pl ++ _ = _
            rw [pageL_succ hX, ← hpl, hpo2]
          · show RowsIn rows dv _
            rw [dueL_succ hX, hdu2, List.append_nil]; exact hdue
          · show (pl ++ _).length ≤ _
            simp only [List.length_append, List.length_cons, List.length_nil, List.length_dropLast]; omega
      · rename Fr _ _ _ _ => F12
        rename News _ _ _ _ => N12
        rename (((X / V % 5 : Nat) : Int) = 4) => q4
        have hpo2 : pageOf z V X = [35] ++ wl ++ [wl.headD 0] ++ [c] := by rw [hpo, if_neg (by omega), if_neg (by omega), if_pos (by omega)]
        have hdu2 : dueOf z V X = [] := by unfold dueOf; rw [if_neg (by omega), if_neg (by omega), if_pos (by omega)]
        refine' turn_end (⟨pl ++ ([35] ++ wl ++ [wl.headD 0] ++ [c]), _, dv, nd, rows, _⟩ : PSt) F12 N12 ?a1 ?a2 ?a0 ?a3 ?a4 ?a5
        case a1 => exact endP1 er
        case a2 => exact endP2 er
        case a0 => exact hoff
        case a3 => walk_at "mine a3"
        case a4 => walk_at "mine a4"
        case a5 =>
          refine ⟨?_, ?_, Nat.le_succ_of_le hdl, ?_, ⟨_, d9⟩, hrows⟩
          · show pl ++ _ = _
            rw [pageL_succ hX, ← hpl, hpo2]
          · show RowsIn rows dv _
            rw [dueL_succ hX, hdu2, List.append_nil]; exact hdue
          · show (pl ++ _).length ≤ _
            simp only [List.length_append, List.length_cons, List.length_nil, List.length_dropLast]; omega
      · rename Fr _ _ _ _ => F12
        rename News _ _ _ _ => N12
        rename (((X / V % 5 : Nat) : Int) ≠ 2) => q2
        rename (((X / V % 5 : Nat) : Int) ≠ 3) => q3
        rename (((X / V % 5 : Nat) : Int) ≠ 4) => q4
        have hpo2 : pageOf z V X = [35] ++ wl ++ [c] := by rw [hpo, if_neg (by omega), if_neg (by omega), if_neg (by omega)]
        have hdu2 : dueOf z V X = [(figsOf z V X).map fun (n : Nat) => (n : Int)] := by unfold dueOf; rw [if_neg (by omega), if_neg (by omega), if_neg (by omega)]
        refine LCg.ListComp_U F12 (by with_unfolding_all rfl) (by decide) (by rfl) (by decide) (by rfl) ?_
        walk_at "mine toSrc"
        rename Fr _ _ _ _ => F13
        rename News _ _ _ _ => N13
        rename IsRange _ _ _ _ _ _ _ _ => R13
        refine LCg.CompSrc.range rfl F13 N13 R13 (small0 (by omega)) (size0 z) (by rw [sizeLine_eq]; omega) fun g => ?_
        refine comp_rest (n := z) (fun i y => ∃ t, y = .int ((X % V / 16 ^ (z - 1 - i) % 16 : Nat) : Int) t) trivial ?c1 ?c2
        case c1 =>
          rintro j v I oI C oC D m₂ h tk E' ys Q' hj ⟨tj, rfl⟩ hC hx F5 N5 hret'
          have e5 : ((z : Int) - 1 - (0 + (j : Int))) = ((z - 1 - j : Nat) : Int) := by omega
          have e6 : 0 < 16 ^ (z - 1 - j) := Nat.pow_pos (by decide)
          have e7 : 16 ^ (z - 1 - j) < 2 ^ 100 := Nat.lt_of_le_of_lt (Nat.pow_le_pow_right (by decide) (show z - 1 - j ≤ 9 by omega)) (by decide)
          walk_at "mine steps"
          exact hret' _ _ _ ⟨_, rfl⟩ F5 N5
        case c2 =>
          intro ys hys hY
          have hIy : IntsAre ys ((figsOf z V X).map fun (n : Nat) => (n : Int)) := ints_of (by rw [hys]; simp [figsOf]) fun j y hy => by
            obtain ⟨t, rfl⟩ := hY j y hy
            have hj : j < z := by rw [← hys]; exact (List.getElem?_eq_some_iff.mp hy).1
            exact ⟨t, by simp [figsOf, List.getD, hj]⟩
          unfold LCg.FinE
          intro D14 h14 tk14 F14 N14 o14
          have o15 := off1_mem o14
          have n14 : @Ne Nat D14 ld := Ne.symm (o15 _ (.head _))
          walk_at "mine steps"
          rename Fr _ _ _ _ => F15
          rename News _ _ _ _ => N15
          rw [List.push_toArray] at N15
          refine' turn_end (⟨pl ++ ([35] ++ wl ++ [c]), _, dv ++ [.ref D14], nd + 1, (D14, LCg.lst ys) :: rows, _⟩ : PSt) F15 N15 ?a1 ?a2 ?a0 ?a3 ?a4 ?a5
          case a1 => exact endP3 er rfl
          case a2 => exact endP4 er
          case a0 => exact endP5 er hoff o15
          case a3 => walk_at "mine a3"
          case a4 => walk_at "mine a4"
          case a5 =>
            refine ⟨?_, ?_, ?_, ?_, ⟨_, d9⟩, ?_⟩
            · show pl ++ _ = _
              rw [pageL_succ hX, ← hpl, hpo2]
            · show RowsIn ((D14, LCg.lst ys) :: rows) (dv ++ [.ref D14]) _
              rw [dueL_succ hX, hdu2]
              exact (hdue.mono fun p hp => .tail _ hp).snoc (.head _) hIy
            · show (dv ++ _).length ≤ _
              simp only [List.length_append, List.length_cons, List.length_nil]; omega
            · show (pl ++ _).length ≤ _
              simp only [List.length_append, List.length_cons, List.length_nil]; omega
            · intro p hp
              rcases List.mem_cons.mp hp with rfl | hp
              · exact ⟨n14, Ne.symm (o15 _ (.tail _ (.head _)))⟩
              · exact hrows p hp
  case k3 =>
    rintro ⟨pl, tp, dv, nd, rows, cb⟩ u h tk ⟨hpl, hdue, hdl, hpll, ⟨q, hcb⟩, hrows⟩ F8 N8
    dsimp only at F8 N8 hpl hdue hdl hpll hcb hrows
    rw [show xs.take wn.length = xs from by rw [hwnl]; exact List.take_length] at hpl hdue
    replace F8 : Fr s₁.heap s₁.heap.objs.size h _ := F8
    replace N8 : News s₁.heap s₁.heap.objs.size h _ := N8
    clear F6 N7
    rename_i j1
    revert w s₀ s₁ mg mb fa o pm doc X0 T0 w12 w11 w10 w9 ns w7 w6 l vs w3 h₁ tk₁ c1 c2 c3 hlen' m0 v1 e1 v2 v3 B1 wd hw1 hw3 U hU z hz hU4 hU16 la ha1 D4 wsa ha2 ta ha3 tka ha4 oU tkb ha5 oZ tkc D3 ha6 D2 ha7 D1 ha8 D0 ha9 lf hb1 hb2 tkd D8 D5 h5 tk5 wk wsb yk yb D9' hb3 tke Dn wn hb4 hb5 tkp hb6 ld hb7 h6 j1 r2 tU dU tZ dZ r1 V hV hV0 hV100 hz9 xs hIn hnum hwnl pl tp dv nd rows cb u h tk hpl hdue hdl hpll hrows q hcb F8 N8
    exact walk.get⟩
end

section
open PySem PySem.W PyProof.Rows PySem.Flt
set_option Elab.async false
set_option maxRecDepth 100000
set_option maxHeartbeats 2000000
set_option pp.deepTerms false
theorem offS11 : True := by
  w_top off
  k_with_none
  exact trivial
local macro_rules | `(tactic| k_all) => `(tactic| assumption)
theorem said13 : True := by
  k_with "mine steps" => (repeat' (first | (k_unfold; (try dsimp only)) | (k_end; kc_close) | ((fail_if_success (with_reducible show wpAny _ _ (exec (PySem.Stmt.For _ _ _ _ _) _) _ _ _)); (fail_if_success (with_reducible show wpAny _ _ (pyIter _) _ _ _)); (fail_if_success (with_reducible show wpAny _ _ (eval (PySem.Expr.ListComp _ _ _ _) _) _ _ _)); first | walk1 | (dsimp only; walk1) | (leave1; walk_say "STEP leave1"; (try dsimp only))) | fail "no step"))
  k_with "mine toIf" => (repeat' (first | (k_unfold; (try dsimp only)) | (k_end; kc_close) | ((fail_if_success (with_reducible show wpAny _ _ (exec (PySem.Stmt.If _ _ _ _) _) _ _ _)); first | walk1 | (dsimp only; walk1) | (leave1; walk_say "STEP leave1"; (try dsimp only))) | fail "no step"))
  k_with "binaryOp Pow int int" => ((k_here; (first | refine pow3 (by assumption) (by assumption) ?_ | refine powY (by assumption) (by omega) ?_); (try dsimp only)))
  k_with "binaryOp FloorDiv int int" => ((k_here; (first | refine fdivN rfl (by assumption) (by assumption) ?_ | refine fdivN (b := 5) rfl (by decide) (by decide) ?_ | refine fdivN (b := 2560) rfl (by decide) (by decide) ?_); (try dsimp only)))
  k_with "binaryOp Mod int int" => ((k_here; (first | refine fmodN rfl (by assumption) (by assumption) ?_ | refine fmodN (b := 512) rfl (by decide) (by decide) ?_ | refine fmodN (b := 55296) rfl (by decide) (by decide) ?_ | refine fmodN (b := 5) rfl (by decide) (by decide) ?_ | refine fmodN (b := 16) rfl (by decide) (by decide) ?_); (try dsimp only)))
  k_with "binaryOp Add int int" => ((k_here; refine add32 rfl ?_; (try dsimp only)))
  k_with "mine toCmp" => (repeat' (first | (k_unfold; (try dsimp only)) | ((fail_if_success (with_reducible show wpAny _ _ (compareOp _ (.ref _) _) _ _ _)); first | walk1 | (dsimp only; walk1) | (leave1; walk_say "STEP leave1"; (try dsimp only))) | fail "no step"))
  k_with "mine toCall" => (repeat' (first | (k_unfold; (try dsimp only)) | ((fail_if_success (with_reducible show wpAny _ _ (call (.ref _) _) _ _ _)); first | walk1 | (dsimp only; walk1) | (leave1; walk_say "STEP leave1"; (try dsimp only))) | fail "no step"))
  k_with "subscriptTail Name Slice str ref" => (walk_at "subscriptTail")
  k_with "subscriptTail Name Constant str int" => (walk_at "subscriptTail")
  k_with "mine toSrc" => (repeat' (first | (k_unfold; (try dsimp only)) | ((fail_if_success (with_reducible show LCg.CompSrc _ _ _ _ _ _ _ _ _ _ _ _ _ _)); first | walk1 | (dsimp only; walk1)) | fail "no step"))
  k_with "mine a3" => ((intro p hp; rw [List.mem_singleton.mp hp]; with_unfolding_all rfl))
  k_with "mine a4" => ((intro z' z1 z2 z3; (have z4 := z2 _ (.head _)); (have z5 : z' ≠ Str.ofString "rest" := fun e => by subst e; revert z3; decide +kernel); (have z6 : z' ≠ Str.ofString "word" := fun e => by subst e; revert z3; decide +kernel); (have z7 : z' ≠ Str.ofString "edge" := fun e => by subst e; revert z3; decide +kernel); (dsimp only at z4); (simp only [kstB, if_neg z1, if_neg z4, if_neg z5, if_neg z6, if_neg z7, z3, Bool.false_eq_true, if_false])))
  exact trivial
noncomputable def st3 : { T : Prop // T → PySem.Challenge.rw_mj0073_01.Holds } := ⟨Wrap _, fun walk => by
  refine st2.2 (Wrap.mk ?_)
  k_fill
  intro w s₀ s₁ mg mb fa o pm doc X0 T0 w12 w11 w10 w9 ns w7 w6 l vs w3 h₁ tk₁ c1 c2 c3 hlen' m0 v1 e1 v2 v3 B1 wd hw1 hw3 U hU z hz hU4 hU16 la ha1 D4 wsa ha2 ta ha3 tka ha4 oU tkb ha5 oZ tkc D3 ha6 D2 ha7 D1 ha8 D0 ha9 lf hb1 hb2 tkd D8 D5 h5 tk5 wk wsb yk yb D9' hb3 tke Dn wn hb4 hb5 tkp hb6 ld hb7 h6 tk r2 tU dU tZ dZ r1 V hV hV0 hV100 hz9 xs hIn hnum hwnl pl tp dv nd rows cb u h tk hpl hdue hdl hpll hrows q hcb F8 N8
  have hsz : (⟨pl.toArray⟩ : Str).cps.size ≤ 1000 := by show pl.toArray.size ≤ _; simp; omega
  dsimp only
  walk_at "mine toCall"
  k_here
  refine' Con.use (read z rfl hsz) ?k1 ?k2 ?k3 ?k4 ?k5 ?kK ?kd ?ku ?kR
  case k1 => k_asm
  case k2 => k_asm
  case k3 => k_asm
  case k4 => k_asm
  case k5 => k_asm
  case kK => first | exact rfl | assumption
  case kd => ktr_room
  case ku => ktr_units
  case kR =>
    rintro _ _ h9 tk9 ⟨af, fv, nf, rowsF, rfl, rfl, hfound⟩ F9 N9 o9
    (try dsimp only)
    (try k_fold)
    rw [show (⟨pl.toArray⟩ : Str).cps.toList = pl from by simp, hpl, read_page z V (by omega)] at hfound
    obtain ⟨rest, er⟩ : ∃ rest, rest = rowsF ++ rows := ⟨_, rfl⟩
    have Ra : RowsIn rest fv (dueL z V xs) := hfound.mono fun p hp => by rw [er]; exact List.mem_append.mpr (.inl hp)
    have Rb : RowsIn rest dv (dueL z V xs) := hdue.mono fun p hp => by rw [er]; exact List.mem_append.mpr (.inr hp)
    have N10 : News s₁.heap s₁.heap.objs.size h9 ((af, listOf fv.toArray nf) :: (ld, listOf dv.toArray nd) :: (s₁.heap.objs.size + 1 + 1 + 1, cb) :: (Dn, listOf wn.toArray 0) :: (s₁.heap.objs.size + 1 + 1, oZ) :: (s₁.heap.objs.size + 1, oU) :: rest) := by
      intro p hp
      refine N9 p ?_
      rw [er] at hp
      simp only [List.mem_cons, List.mem_append, List.cons_append] at hp ⊢
      rcases hp with h | h | h | h | h | h | h | h
      · exact .inl h
      · exact .inr (.inr (.inl h))
      · exact .inr (.inr (.inr (.inl h)))
      · exact .inr (.inr (.inr (.inr (.inl h))))
      · exact .inr (.inr (.inr (.inr (.inr (.inl h)))))
      · exact .inr (.inr (.inr (.inr (.inr (.inr (.inl h))))))
      · exact .inr (.inl h)
      · exact .inr (.inr (.inr (.inr (.inr (.inr (.inr h))))))
    clear F8 N8 N9 o9 hfound hdue
    walk_at "mine toCmp"
    rename Fr _ _ _ _ => F11
    rename News _ _ _ _ => N11
    refine ne_rows N11 (.head _) (Ra.mono fun p hp => ?m1) (.tail _ (.head _)) (Rb.mono fun p hp => ?m2) ?u1 ?n1
    case m1 => exact .tail _ (.tail _ (.tail _ (.tail _ (.tail _ (.tail _ hp)))))
    case m2 => exact .tail _ (.tail _ (.tail _ (.tail _ (.tail _ (.tail _ hp)))))
    case u1 => ktr_units
    case n1 =>
      clear hrows hcb Rb er hdl hpll hpl hsz e1
      (try clear F9)
      rename_i j1 j2 j3
      revert w s₀ s₁ mg mb fa o pm doc X0 T0 w12 w11 w10 w9 ns w7 w6 l vs w3 h₁ tk₁ c1 c2 c3 hlen' m0 v1 v2 v3 B1 wd hw1 hw3 U hU z hz hU4 hU16 la ha1 D4 wsa ha2 ta ha3 tka ha4 oU tkb ha5 oZ tkc D3 ha6 D2 ha7 D1 ha8 D0 ha9 lf hb1 hb2 tkd D8 D5 h5 tk5 wk wsb yk yb D9' hb3 tke Dn wn hb4 hb5 tkp hb6 ld hb7 h6 j1 r2 tU dU tZ dZ r1 V hV hV0 hV100 hz9 xs hIn hnum hwnl pl tp dv nd rows cb u h j2 q h9 tk9 af fv nf rowsF qk ek rest Ra j3 F11 N11 tk
      exact walk.get⟩
end

section
open PySem PySem.W PyProof.Rows PySem.Flt
set_option Elab.async false
set_option maxRecDepth 100000
set_option maxHeartbeats 2000000
set_option pp.deepTerms false
theorem offS12 : True := by
  w_top off
  k_with_none
  exact trivial
local macro_rules | `(tactic| k_all) => `(tactic| assumption)
theorem said14 : True := by
  k_with "mine steps" => (repeat' (first | (k_unfold; (try dsimp only)) | (k_end; kc_close) | ((fail_if_success (with_reducible show wpAny _ _ (exec (PySem.Stmt.For _ _ _ _ _) _) _ _ _)); (fail_if_success (with_reducible show wpAny _ _ (pyIter _) _ _ _)); (fail_if_success (with_reducible show wpAny _ _ (eval (PySem.Expr.ListComp _ _ _ _) _) _ _ _)); first | walk1 | (dsimp only; walk1) | (leave1; walk_say "STEP leave1"; (try dsimp only))) | fail "no step"))
  k_with "call ref" => (first | cell_ask (worth (by k_mem) (by assumption)))
  k_with "mine toAnd" => (repeat' (first | (k_unfold; (try dsimp only)) | ((fail_if_success (with_reducible show _ ∧ _)); first | walk1 | (dsimp only; walk1) | (leave1; walk_say "STEP leave1"; (try dsimp only))) | fail "no step"))
  k_with "mine toCall" => (repeat' (first | (k_unfold; (try dsimp only)) | ((fail_if_success (with_reducible show wpAny _ _ (call (.ref _) _) _ _ _)); first | walk1 | (dsimp only; walk1) | (leave1; walk_say "STEP leave1"; (try dsimp only))) | fail "no step"))
  k_with "mine toSub" => (repeat' (first | (k_unfold; (try dsimp only)) | ((fail_if_success (with_reducible show wpAny _ _ (subscriptTail _ _ _ _) _ _ _)); first | walk1 | (dsimp only; walk1) | (leave1; walk_say "STEP leave1"; (try dsimp only))) | fail "no step"))
  k_with "binaryOp Mult int int" => ((k_here; refine mulD ?_; (try dsimp only)))
  exact trivial
theorem law3 : PySem.Challenge.rw_mj0073_01.Holds := by
  refine st3.2 (Wrap.mk ?_)
  k_fill
  intro w s₀ s₁ mg mb fa o pm doc X0 T0 w12 w11 w10 w9 ns w7 w6 l vs w3 h₁ tk₁ c1 c2 c3 hlen' m0 v1 v2 v3 B1 wd hw1 hw3 U hU z hz hU4 hU16 la ha1 D4 wsa ha2 ta ha3 tka ha4 oU tkb ha5 oZ tkc D3 ha6 D2 ha7 D1 ha8 D0 ha9 lf hb1 hb2 tkd D8 D5 h5 tk5 wk wsb yk yb D9' hb3 tke Dn wn hb4 hb5 tkp hb6 ld hb7 h6 tk r2 tU dU tZ dZ r1 V hV hV0 hV100 hz9 xs hIn hnum hwnl pl tp dv nd rows cb u h tk q h9 tk9 af fv nf rowsF qk ek rest Ra h' F11 N11 tk'
  walk_at "mine steps"
  refine for_inv F11 (by rfl) (by rfl) ?_
  walk_at "mine steps"
  refine' loop_list (σ := Unit) (fun c => (af, listOf fv.toArray nf) :: (ld, listOf dv.toArray nd) :: (s₁.heap.objs.size + 1 + 1 + 1, cb) :: (Dn, listOf wn.toArray 0) :: (s₁.heap.objs.size + 1 + 1, oZ) :: (s₁.heap.objs.size + 1, oU) :: rest)
    (fun c => []) [Str.ofString "parts"] (fun i c => True) () rfl F11 N11 rfl (fun c => .head _) (fun p hp => nomatch hp) trivial ?k2 ?k3
  case k2 =>
    rintro ⟨⟩ i v u h tk own hv hoff - F8 N8
    (try dsimp only at F8 N8 hoff)
    obtain ⟨ar, us, nu, r, rfl, hm, hIr, hr⟩ := Ra.get i v hv
    have hF := due_figs hr
    replace F8 : Fr s₁.heap s₁.heap.objs.size h _ := F8
    replace N8 : News s₁.heap s₁.heap.objs.size h _ := N8
    obtain ⟨tl, et⟩ : ∃ tl, tl = (af, listOf fv.toArray nf) :: (ld, listOf dv.toArray nd) :: (s₁.heap.objs.size + 1 + 1 + 1, cb) :: (Dn, listOf wn.toArray 0) :: (s₁.heap.objs.size + 1 + 1, oZ) :: (s₁.heap.objs.size + 1, oU) :: rest ++ own := ⟨_, rfl⟩
    have N9 : News s₁.heap s₁.heap.objs.size h ((ar, listOf us.toArray nu) :: (s₁.heap.objs.size + 1, oU) :: tl) := by
      intro p hp
      rw [et] at hp
      rcases List.mem_cons.mp hp with rfl | hp
      · exact N8 _ (List.mem_append.mpr (.inl (.tail _ (.tail _ (.tail _ (.tail _ (.tail _ (.tail _ hm))))))))
      · rcases List.mem_cons.mp hp with rfl | hp
        · exact N8 _ (List.mem_append.mpr (.inl (.tail _ (.tail _ (.tail _ (.tail _ (.tail _ (.head _))))))))
        · exact N8 _ hp
    clear N8 F11 N11
    have hU2 : U = 2 ^ (4 * wd) := by rw [hU, Nat.pow_mul]
    have hl9 : r.length ≤ 100 := by rw [hF.1]; omega
    obtain ⟨qa, qb, qc, ea, eb, ec, la, lb, lc⟩ := three_parts hF hz hU
    clear hF
    walk_at "mine toSub"
    k_here
    refine' cutA F8 N9 (.head _) hIr hl9 ?_
    intro Da wa hh1 F10 N10 m1 I1
    dsimp only
    walk_at "mine toCall"
    cell_ask (worthN (.head _) I1 ea)
    rename News _ _ _ _ => N11
    rename Fr _ _ _ _ => F11
    replace N11 : News s₁.heap s₁.heap.objs.size _ ((ar, listOf us.toArray nu) :: (s₁.heap.objs.size + 1, oU) :: tl) := fun p hp => N11 p (.tail _ hp)
    clear F8 N9 F10 N10 I1 m1
    walk_at "mine toSub"
    k_here
    refine' cutB F11 N11 (.head _) hIr hl9 rfl ?_
    intro Db wb hh2 F12 N12 m2 I2
    dsimp only
    walk_at "mine toCall"
    cell_ask (worthN (.head _) I2 eb)
    rename News _ _ _ _ => N13
    rename Fr _ _ _ _ => F13
    replace N13 : News s₁.heap s₁.heap.objs.size _ ((ar, listOf us.toArray nu) :: (s₁.heap.objs.size + 1, oU) :: tl) := fun p hp => N13 p (.tail _ hp)
    clear F11 N11 F12 N12 I2 m2
    walk_at "mine toSub"
    k_here
    refine' cutC F13 N13 (.head _) hIr hl9 rfl ?_
    intro Dc wc hh3 F14 N14 m3 I3
    dsimp only
    walk_at "mine toCall"
    cell_ask (worthN (.head _) I3 ec)
    rename News _ _ _ _ => N15
    rename Fr _ _ _ _ => F15
    replace N15 : News s₁.heap s₁.heap.objs.size _ ((ar, listOf us.toArray nu) :: (s₁.heap.objs.size + 1, oU) :: tl) := fun p hp => N15 p (.tail _ hp)
    clear F13 N13 F14 N14 I3 m3
    walk_at "mine toCall"
    cell_ask (agree_any (c := 4 * wd) hU2 (by omega) la lb lc)
    walk_at "mine steps"
    rename News _ _ _ _ => N17
    rename Fr _ _ _ _ => F17
    refine' turn_end () F17 N17 ?a1 ?a2 hoff (fun p hp => nomatch hp) ?a4 trivial
    case a1 =>
      intro p hp
      refine .tail _ (.tail _ (.tail _ ?_))
      rw [et]
      exact List.mem_append.mpr (.inl hp)
    case a2 =>
      intro p hp
      refine .tail _ (.tail _ (.tail _ ?_))
      rw [et]
      exact List.mem_append.mpr (.inr hp)
    case a4 =>
      intro z' z1 z2 z3
      have z5 : z' ≠ Str.ofString "parts" := fun e => by subst e; revert z3; decide +kernel
      simp only [kstB, if_neg z1, if_neg z5, z3, Bool.false_eq_true, if_false]
  case k3 =>
    rintro ⟨⟩ u h tk - F8 N8
    clear F11 N11
    walk_at "mine toAnd"
    exact ⟨rfl, _, _, _, rfl, by assumption⟩
end

end Mine
theorem PySem.Challenge.cw_mj0073_01_holds : PySem.Challenge.rw_mj0073_01.Holds := by
  exact Mine.law3
