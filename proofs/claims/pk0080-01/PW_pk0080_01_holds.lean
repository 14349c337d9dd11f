import PyProof.Rows.All
import Wide.All
import OpenK.AllK
import Wide.FinOn
import PySem.Challenge.RW_pk0080_01
open PySem PySem.W PyProof.Rows PySem.Calls
set_option Elab.async false
set_option compiler.extract_closed false
set_option maxRecDepth 100000
set_option maxHeartbeats 8000000
namespace Mine
section
local macro_rules | `({ scope := $_, locals := $_, globals := $_, cells := $_, code := $_, frame := $_ }) => Lean.Macro.throwError "at once"
open_top hd for PySem.Challenge.rw_pk0080_01
end
theorem top_off_Hd : True := by
  w_top off
  trivial
abbrev Led := List (Addr × Obj)
noncomputable abbrev VW : Program := Mine.hd.view_39
noncomputable abbrev LS : List Str := looseW Mine.hd.view_39 [Str.ofString "Whitespace"]

/-- a contract of a call: what the ledger must bear, and what comes back, upon a ledger that has grown -/
def Ct (w : World) (mean : ExcName → Option Value) (mg mb : Str → Option Value) (f : Addr) (dep : Nat) (vs : List Value) (Pre : Led → Prop) (Post : Led → Led → Value → Prop) : Prop :=
  ∀ (dp un : Nat) (gd : Option (List Code)) (cn : Str) (cs : Scope) (a : Addr) (ccd : Value) (cl : List (Str × Addr)) (outer : List Env) (A₀ : Around) (base h₀ : Heap) (L : Addr) (m : Str → Option Value) (news : Led) (s : Shared) (Q E : Value → Shared → Prop),
    Below A₀ base outer h₀ → Fr h₀ L s.heap m → (Mine.hd.heap_39 w.params).In h₀ → News h₀ L s.heap news → Top VW LS mean mg mb h₀ → cs.kind = .function → Pre news → dp + dep < 500 → un + 100 * dep < 5000 →
    (∀ r tl h' tk', Fr h₀ L h' m → News h₀ L h' (tl ++ news) → (∀ q ∈ news, ∀ p ∈ tl, q.1 ≠ p.1) → Post news tl r → Q r { s with heap := h', toks := tk' }) →
    wpAny (model PySem.Challenge.rw_pk0080_01.row.prog w) (ktrTop dp un gd cn cs L a ccd cl outer) (call (.ref f) vs) Q E s
theorem ct_use {w : World} {mean : ExcName → Option Value} {mg mb : Str → Option Value} {f : Addr} {dep : Nat} {vs : List Value} {Pre : Led → Prop} {Post : Led → Led → Value → Prop} {dp un : Nat} {gd : Option (List Code)} {cn : Str} {cs : Scope} {a : Addr} {ccd : Value} {cl : List (Str × Addr)} {outer : List Env} {A₀ : Around} {base h₀ : Heap} {L : Addr} {m : Str → Option Value} {news : Led} {s : Shared} {Q E : Value → Shared → Prop}
    (C : Ct w mean mg mb f dep vs Pre Post) (B : Below A₀ base outer h₀) (F : Fr h₀ L s.heap m) (X : (Mine.hd.heap_39 w.params).In h₀) (N : News h₀ L s.heap news) (T : Top VW LS mean mg mb h₀) (hk : cs.kind = .function) (hP : Pre news) (hd : dp + dep < 500) (hu : un + 100 * dep < 5000)
    (ret : ∀ r tl h' tk', Fr h₀ L h' m → News h₀ L h' (tl ++ news) → (∀ q ∈ news, ∀ p ∈ tl, q.1 ≠ p.1) → Post news tl r → Q r { s with heap := h', toks := tk' }) :
    wpAny (model PySem.Challenge.rw_pk0080_01.row.prog w) (ktrTop dp un gd cn cs L a ccd cl outer) (call (.ref f) vs) Q E s :=
  C dp un gd cn cs a ccd cl outer A₀ base h₀ L m news s Q E B F X N T hk hP hd hu ret
theorem ct_useI {w : World} {mean : ExcName → Option Value} {mg mb : Str → Option Value} {f : Addr} {dep : Nat} {vs : List Value} {Pre : Led → Prop} {V : Int} {dp un : Nat} {gd : Option (List Code)} {cn : Str} {cs : Scope} {a : Addr} {ccd : Value} {cl : List (Str × Addr)} {outer : List Env} {A₀ : Around} {base h₀ : Heap} {L : Addr} {m : Str → Option Value} {news : Led} {s : Shared} {Q E : Value → Shared → Prop}
    (C : Ct w mean mg mb f dep vs Pre (fun _ tl r => tl = [] ∧ ∃ t, r = .int V t)) (B : Below A₀ base outer h₀) (F : Fr h₀ L s.heap m) (X : (Mine.hd.heap_39 w.params).In h₀) (N : News h₀ L s.heap news) (T : Top VW LS mean mg mb h₀) (hk : cs.kind = .function) (hP : Pre news) (hd : dp + dep < 500) (hu : un + 100 * dep < 5000)
    (ret : ∀ t h' tk', Fr h₀ L h' m → News h₀ L h' news → Q (.int V t) { s with heap := h', toks := tk' }) :
    wpAny (model PySem.Challenge.rw_pk0080_01.row.prog w) (ktrTop dp un gd cn cs L a ccd cl outer) (call (.ref f) vs) Q E s :=
  ct_use C B F X N T hk hP hd hu fun r tl h' tk' F' N' _ hp => by
    obtain ⟨rfl, t, rfl⟩ := hp
    exact ret t h' tk' F' N'
theorem ct_useB {w : World} {mean : ExcName → Option Value} {mg mb : Str → Option Value} {f : Addr} {dep : Nat} {vs : List Value} {Pre : Led → Prop} {V : Bool} {dp un : Nat} {gd : Option (List Code)} {cn : Str} {cs : Scope} {a : Addr} {ccd : Value} {cl : List (Str × Addr)} {outer : List Env} {A₀ : Around} {base h₀ : Heap} {L : Addr} {m : Str → Option Value} {news : Led} {s : Shared} {Q E : Value → Shared → Prop}
    (C : Ct w mean mg mb f dep vs Pre (fun _ tl r => tl = [] ∧ r = .bool V)) (W : Bool) (e : V = W) (B : Below A₀ base outer h₀) (F : Fr h₀ L s.heap m) (X : (Mine.hd.heap_39 w.params).In h₀) (N : News h₀ L s.heap news) (T : Top VW LS mean mg mb h₀) (hk : cs.kind = .function) (hP : Pre news) (hd : dp + dep < 500) (hu : un + 100 * dep < 5000)
    (ret : ∀ h' tk', Fr h₀ L h' m → News h₀ L h' news → Q (.bool W) { s with heap := h', toks := tk' }) :
    wpAny (model PySem.Challenge.rw_pk0080_01.row.prog w) (ktrTop dp un gd cn cs L a ccd cl outer) (call (.ref f) vs) Q E s :=
  ct_use C B F X N T hk hP hd hu fun r tl h' tk' F' N' _ hp => by
    obtain ⟨rfl, rfl⟩ := hp
    subst e
    exact ret h' tk' F' N'
theorem ct_useV {w : World} {mean : ExcName → Option Value} {mg mb : Str → Option Value} {f : Addr} {dep : Nat} {vs : List Value} {Pre : Led → Prop} {V : Int} {dp un : Nat} {gd : Option (List Code)} {cn : Str} {cs : Scope} {a : Addr} {ccd : Value} {cl : List (Str × Addr)} {outer : List Env} {A₀ : Around} {base h₀ : Heap} {L : Addr} {m : Str → Option Value} {news : Led} {s : Shared} {Q E : Value → Shared → Prop}
    (C : Ct w mean mg mb f dep vs Pre (fun _ tl r => tl = [] ∧ ∃ t, r = .int V t)) (W : Int) (e : V = W) (B : Below A₀ base outer h₀) (F : Fr h₀ L s.heap m) (X : (Mine.hd.heap_39 w.params).In h₀) (N : News h₀ L s.heap news) (T : Top VW LS mean mg mb h₀) (hk : cs.kind = .function) (hP : Pre news) (hd : dp + dep < 500) (hu : un + 100 * dep < 5000)
    (ret : ∀ t h' tk', Fr h₀ L h' m → News h₀ L h' news → Q (.int W t) { s with heap := h', toks := tk' }) :
    wpAny (model PySem.Challenge.rw_pk0080_01.row.prog w) (ktrTop dp un gd cn cs L a ccd cl outer) (call (.ref f) vs) Q E s :=
  ct_useI C B F X N T hk hP hd hu (by subst e; exact ret)
theorem toks_cut {M : Model} {A : Around} {α : Type} {t : Sem α} {Q : α → Shared → Prop} {E : Value → Shared → Prop} {hp : Heap} {g : Array GenState} {d : Drawn} {o : OsState} {k : Nat} (h : ∀ tk : Nat, wpAny M A t Q E (Shared.mk hp g d tk o)) : wpAny M A t Q E (Shared.mk hp g d (k + 1) o) := h _
/-- what holds between two turns: a state c tells the ledger and the named locals -/
def LpS {σ : Type} (Ld : σ → Led) (ps : σ → List (Str × Value)) (x : Str) (stored : List Str) (m₀ : Str → Option Value) (P : Nat → σ → Prop) (i : Nat) (m : Str → Option Value) (nx : Led) : Prop :=
  ∃ c : σ, nx = Ld c ∧ (∀ p ∈ ps c, m p.1 = some p.2) ∧ (∀ z, z ≠ x → (∀ p ∈ ps c, z ≠ p.1) → stored.contains z = false → m z = m₀ z) ∧ P i c

section
variable {prog : Program} {w : World} {A : Around} {E : Value → Shared → Prop} {s : Shared} {env : Env} {h₀ : Heap} {x : Str} {body : List Stmt} {Q : Flow → Shared → Prop}

theorem lp_end {σ : Type} {Ld : σ → Led} {ps : σ → List (Str × Value)} {stored : List Str} {m₀ : Str → Option Value} {P : Nat → σ → Prop} {i : Nat} (c : σ) {L : Addr} {m' : Str → Option Value} {own news' : Led} {s₁ : Shared} {h' : Heap} {tk : Nat}
    (F : Fr h₀ L h' m') (N : News h₀ L h' news') (hn : ∀ p ∈ Ld c, p ∈ news') (ho : ∀ p ∈ own, p ∈ news') (ha : OwnOff own ((Ld c).map (·.1)))
    (hk : ∀ p ∈ ps c, m' p.1 = some p.2) (hr : ∀ z, z ≠ x → (∀ p ∈ ps c, z ≠ p.1) → stored.contains z = false → m' z = m₀ z) (hp : P i c) :
    InvEndG h₀ L (LpS Ld ps x stored m₀ P i) own s₁ { s₁ with heap := h', toks := tk } :=
  InvEndG.intro F N ⟨c, rfl, hk, hr, hp⟩ ha hn ho

theorem lp_list {σ : Type} {l : Addr} {vs : List Value} {nn : Nat} {m₀ : Str → Option Value} (Ld : σ → Led) (ps : σ → List (Str × Value)) (stored : List Str) (P : Nat → σ → Prop) (c₀ : σ)
    (hh : A.handled = none) (hl : ∀ c, (l, listOf vs.toArray nn) ∈ Ld c) (F : Fr h₀ env.locals s.heap m₀) (N : News h₀ env.locals s.heap (Ld c₀)) (hk : ∀ p ∈ ps c₀, m₀ p.1 = some p.2) (hp : P 0 c₀)
    (turn : ∀ (c : σ) (i : Nat) (v : Value) (u : Str → Option Value) (h : Heap) (tk : Nat) (own : Led), vs[i]? = some v → OwnOff own ((Ld c).map (·.1)) → P i c →
      Fr h₀ env.locals h (fun y => if y = x then some v else kstB (fun z => if stored.contains z then u z else m₀ z) (ps c) y) → News h₀ env.locals h (Ld c ++ own) →
      wpAny (model prog w) A (execs body env) (InvPostG h₀ env.locals (LpS Ld ps x stored m₀ P (i + 1)) own { s with heap := h, toks := tk } Q) E { s with heap := h, toks := tk })
    (done : ∀ (c : σ) (u : Str → Option Value) (h : Heap) (tk : Nat), P vs.length c → Fr h₀ env.locals h (fun y => if y = x then u y else kstB (fun z => if stored.contains z then u z else m₀ z) (ps c) y) → News h₀ env.locals h (Ld c) → Q .next { s with heap := h, toks := tk }) :
    wpAny (model prog w) A (pyIter (.ref l)) (fun it s₂ => LoopAtV prog w A h₀ env x body Q E it s₂) E s := by
  refine kdl_iter (news := Ld c₀) (fun i m nx => LpS Ld ps x stored m₀ P i m nx) hh (hl c₀) F N ⟨c₀, rfl, hk, fun _ _ _ _ => rfl, hp⟩ ?_ ?_
  · rintro i v m₁ nx h tk own hv hoff _ ⟨c, rfl, h1, h2, hp'⟩ F₁ N₁
    refine wpAny_mono (turn c i v m₁ h tk own hv hoff hp' (kst_fr h1 h2 F₁) N₁) (fun f s₂ p => ?_) fun _ _ x => x
    have up : InvEndG h₀ env.locals (LpS Ld ps x stored m₀ P (i + 1)) own { s with heap := h, toks := tk } s₂ →
        InvEndG h₀ env.locals (fun m' nx => (l, listOf vs.toArray nn) ∈ nx ∧ LpS Ld ps x stored m₀ P (i + 1) m' nx) own { s with heap := h, toks := tk } s₂ := by
      rintro ⟨h', tk', m', news', nx', e', F', N', hn', ho', ha, hS⟩
      refine ⟨h', tk', m', news', nx', e', F', N', hn', ho', ha, ?_, hS⟩
      obtain ⟨c', rfl, _⟩ := hS
      exact hl c'
    cases f with
    | ret v => exact p
    | brk => exact p
    | next => exact up p
    | cont => exact up p
  · rintro m₁ nx h tk ⟨c, rfl, h1, h2, hp'⟩ F₁ N₁
    exact done c m₁ h tk hp' (kst_frOut h1 h2 F₁) N₁

theorem lp_range {σ : Type} {r : Addr} {a₀ b₀ : Int} {t₀ u₀ v₀ : Tok} {n : Nat} {m₀ : Str → Option Value} (Ld : σ → Led) (ps : σ → List (Str × Value)) (stored : List Str) (P : Nat → σ → Prop) (c₀ : σ)
    (hh : A.handled = none) (hr : IsRange s.heap r a₀ b₀ 1 t₀ u₀ v₀) (hsmall : Builtin.Range.small a₀ b₀ 1 = true) (hsz : Builtin.Range.rangeSize a₀ b₀ 1 = (n : Int)) (F : Fr h₀ env.locals s.heap m₀) (N : News h₀ env.locals s.heap (Ld c₀)) (hk : ∀ p ∈ ps c₀, m₀ p.1 = some p.2) (hp : P 0 c₀)
    (turn : ∀ (c : σ) (i : Nat) (t : Tok) (u : Str → Option Value) (h : Heap) (tk : Nat) (own : Led), i < n → OwnOff own ((Ld c).map (·.1)) → P i c →
      Fr h₀ env.locals h (fun y => if y = x then some (.int (a₀ + (i : Int)) t) else kstB (fun z => if stored.contains z then u z else m₀ z) (ps c) y) → News h₀ env.locals h (Ld c ++ own) →
      wpAny (model prog w) A (execs body env) (InvPostG h₀ env.locals (LpS Ld ps x stored m₀ P (i + 1)) own { s with heap := h, toks := tk } Q) E { s with heap := h, toks := tk })
    (done : ∀ (c : σ) (u : Str → Option Value) (h : Heap) (tk : Nat), P n c → Fr h₀ env.locals h (fun y => if y = x then u y else kstB (fun z => if stored.contains z then u z else m₀ z) (ps c) y) → News h₀ env.locals h (Ld c) → Q .next { s with heap := h, toks := tk }) :
    wpAny (model prog w) A (pyIter (.ref r)) (fun it s₂ => LoopAtV prog w A h₀ env x body Q E it s₂) E s := by
  refine wpAny_pyIter_range hr hsmall ?_
  have W : Walks prog w A s.heap.objs.size [s.heap.objs.size] [s.heap.objs.size] n (fun i v => i < n ∧ ∃ t, v = .int (a₀ + i * 1) t)
      (fun i h => IsRangeIter h s.heap.objs.size (a₀ + (i : Nat) * 1) ((n : Int) - (i : Nat)) 1) := (Walks.range hh _ a₀ 1 n).bound
  refine kdr_loop (fun i m nx => LpS Ld ps x stored m₀ P i m nx) W (fun _ h => h) (fun _ h => h) ?_ ?_ ?_ ?_ (by show IsRangeIter _ _ _ _ _; rw [hsz]; simpa using Heap.get?_push_size _ rfl) (F.push _) (fun p hp => ⟨Heap.get?_push_of_some _ (N p hp).1, (N p hp).2⟩) ⟨c₀, rfl, hk, fun _ _ _ _ => rfl, hp⟩ ?_ ?_
  · intro i h hi b hb
    rw [List.mem_singleton.mp hb]
    exact ⟨_, hi⟩
  · intro hm
    exact absurd F.ns.lt ((List.mem_singleton.mp hm) ▸ Nat.lt_irrefl _)
  · intro b hb
    rw [List.mem_singleton.mp hb]
    exact next_is_new F
  · intro p hp hI
    exact absurd (Heap.lt_size (N p hp).1) ((List.mem_singleton.mp hI) ▸ Nat.lt_irrefl _)
  · rintro i v m₁ nx h tk own hi ⟨_, t, rfl⟩ hoff ⟨c, rfl, h1, h2, hp'⟩ F₁ N₁
    have e1 : a₀ + (i : Int) * 1 = a₀ + (i : Int) := by omega
    rw [e1] at F₁
    exact turn c i t m₁ h tk own hi hoff hp' (kst_fr h1 h2 F₁) N₁
  · rintro m₁ nx h tk ⟨c, rfl, h1, h2, hp'⟩ F₁ N₁
    exact done c m₁ h tk hp' (kst_frOut h1 h2 F₁) N₁

theorem lp_str {σ : Type} {xt : Str} {tx : Tok} {m₀ : Str → Option Value} (Ld : σ → Led) (ps : σ → List (Str × Value)) (stored : List Str) (P : Nat → σ → Prop) (c₀ : σ)
    (hh : A.handled = none) (ha : xt.cps.all (· < 128) = true) (F : Fr h₀ env.locals s.heap m₀) (N : News h₀ env.locals s.heap (Ld c₀)) (hk : ∀ p ∈ ps c₀, m₀ p.1 = some p.2) (hp : P 0 c₀)
    (turn : ∀ (c : σ) (i k : Nat) (t : Tok) (u : Str → Option Value) (h : Heap) (tk : Nat) (own : Led), xt.cps[i]? = some k → OwnOff own ((Ld c).map (·.1)) → P i c →
      Fr h₀ env.locals h (fun y => if y = x then some (.str ⟨#[k]⟩ t) else kstB (fun z => if stored.contains z then u z else m₀ z) (ps c) y) → News h₀ env.locals h (Ld c ++ own) →
      wpAny (model prog w) A (execs body env) (InvPostG h₀ env.locals (LpS Ld ps x stored m₀ P (i + 1)) own { s with heap := h, toks := tk } Q) E { s with heap := h, toks := tk })
    (done : ∀ (c : σ) (u : Str → Option Value) (h : Heap) (tk : Nat), P xt.cps.size c → Fr h₀ env.locals h (fun y => if y = x then u y else kstB (fun z => if stored.contains z then u z else m₀ z) (ps c) y) → News h₀ env.locals h (Ld c) → Q .next { s with heap := h, toks := tk }) :
    wpAny (model prog w) A (pyIter (.str xt tx)) (fun it s₂ => LoopAtV prog w A h₀ env x body Q E it s₂) E s := by
  refine wpAny_pyIter_ascii ha ?_
  have W := Walks.strAscii (prog := prog) (w := w) hh s.heap.objs.size xt tx
  refine kdr_loop (fun i m nx => LpS Ld ps x stored m₀ P i m nx) W (fun _ h => h) (fun _ h => h) ?_ ?_ ?_ ?_ ⟨_, Heap.get?_push_size _ rfl, rfl, rfl⟩ (F.push _) (fun p hp => ⟨Heap.get?_push_of_some _ (N p hp).1, (N p hp).2⟩) ⟨c₀, rfl, hk, fun _ _ _ _ => rfl, hp⟩ ?_ ?_
  · intro i h hi b hb
    rw [List.mem_singleton.mp hb]
    obtain ⟨o, ho, _⟩ := hi
    exact ⟨o, ho⟩
  · intro hm
    exact absurd F.ns.lt ((List.mem_singleton.mp hm) ▸ Nat.lt_irrefl _)
  · intro b hb
    rw [List.mem_singleton.mp hb]
    exact next_is_new F
  · intro p hp hI
    exact absurd (Heap.lt_size (N p hp).1) ((List.mem_singleton.mp hI) ▸ Nat.lt_irrefl _)
  · rintro i v m₁ nx h tk own hi ⟨k, t, hk', rfl⟩ hoff ⟨c, rfl, h1, h2, hp'⟩ F₁ N₁
    exact turn c i k t m₁ h tk own hk' hoff hp' (kst_fr h1 h2 F₁) N₁
  · rintro m₁ nx h tk ⟨c, rfl, h1, h2, hp'⟩ F₁ N₁
    exact done c m₁ h tk hp' (kst_frOut h1 h2 F₁) N₁
end

theorem lookup_kstB : ∀ (l : List (Str × Value)) (y : Str), l.lookup y = kstB (fun _ => none) l y
  | [], _ => rfl
  | p :: r, y => by
    show (match y == p.1 with | true => some p.2 | false => r.lookup y) = if y = p.1 then some p.2 else kstB (fun _ => none) r y
    by_cases h : y = p.1
    · simp [h]
    · have : (y == p.1) = false := by simpa using h
      rw [this, if_neg h]
      exact lookup_kstB r y
theorem fr_of_lookup {h₀ h : Heap} {L : Addr} {l : List (Str × Value)} (F : Fr h₀ L h (fun y => l.lookup y)) : Fr h₀ L h (kstB (fun _ => none) l) := by
  have : (fun y => l.lookup y) = kstB (fun _ => none) l := funext fun y => lookup_kstB l y
  rw [this] at F
  exact F

/-- the same for a loop whose target is any name (a cell too) -/
def LtS {σ : Type} (Ld : σ → Led) (ps : σ → List (Str × Value)) (stored : List Str) (m₀ : Str → Option Value) (P : Nat → σ → Prop) (i : Nat) (m : Str → Option Value) (nx : Led) : Prop :=
  ∃ c : σ, nx = Ld c ∧ (∀ p ∈ ps c, m p.1 = some p.2) ∧ (∀ z, (∀ p ∈ ps c, z ≠ p.1) → stored.contains z = false → m z = m₀ z) ∧ P i c
theorem lt_fr {h₀ h : Heap} {L : Addr} {ps : List (Str × Value)} {stored : List Str} {m₀ m₁ : Str → Option Value} (h1 : ∀ p ∈ ps, m₁ p.1 = some p.2) (h2 : ∀ z, (∀ p ∈ ps, z ≠ p.1) → stored.contains z = false → m₁ z = m₀ z) (F : Fr h₀ L h m₁) :
    Fr h₀ L h (kstB (fun z => if stored.contains z then m₁ z else m₀ z) ps) := by
  have em : kstB (fun z => if stored.contains z then m₁ z else m₀ z) ps = m₁ := by
    funext y
    refine kstB_eq h1 fun hn => ?_
    show (if stored.contains y = true then m₁ y else m₀ y) = m₁ y
    cases h3 : stored.contains y with
    | true => simp
    | false => simp only [Bool.false_eq_true, if_false]; exact (h2 y hn h3).symm
  rw [em]
  exact F
section
variable {prog : Program} {w : World} {A : Around} {E : Value → Shared → Prop} {s : Shared} {env : Env} {h₀ : Heap} {x : Str} {px : Pos} {body : List Stmt} {Q : Flow → Shared → Prop}
theorem lt_end {σ : Type} {Ld : σ → Led} {ps : σ → List (Str × Value)} {stored : List Str} {m₀ : Str → Option Value} {P : Nat → σ → Prop} {i : Nat} (c : σ) {L : Addr} {m' : Str → Option Value} {own news' : Led} {s₁ : Shared} {h' : Heap} {tk : Nat}
    (F : Fr h₀ L h' m') (N : News h₀ L h' news') (hn : ∀ p ∈ Ld c, p ∈ news') (ho : ∀ p ∈ own, p ∈ news') (ha : OwnOff own ((Ld c).map (·.1)))
    (hk : ∀ p ∈ ps c, m' p.1 = some p.2) (hr : ∀ z, (∀ p ∈ ps c, z ≠ p.1) → stored.contains z = false → m' z = m₀ z) (hp : P i c) :
    InvEndG h₀ L (LtS Ld ps stored m₀ P i) own s₁ { s₁ with heap := h', toks := tk } :=
  InvEndG.intro F N ⟨c, rfl, hk, hr, hp⟩ ha hn ho
theorem lt_range {σ : Type} {r : Addr} {a₀ b₀ : Int} {t₀ u₀ v₀ : Tok} {n : Nat} {m₀ : Str → Option Value} (Ld : σ → Led) (ps : σ → List (Str × Value)) (stored : List Str) (P : Nat → σ → Prop) (c₀ : σ)
    (hh : A.handled = none) (hr : IsRange s.heap r a₀ b₀ 1 t₀ u₀ v₀) (hsmall : Builtin.Range.small a₀ b₀ 1 = true) (hsz : Builtin.Range.rangeSize a₀ b₀ 1 = (n : Int)) (F : Fr h₀ env.locals s.heap m₀) (N : News h₀ env.locals s.heap (Ld c₀)) (hk : ∀ p ∈ ps c₀, m₀ p.1 = some p.2) (hp : P 0 c₀)
    (turn : ∀ (c : σ) (i : Nat) (t : Tok) (u : Str → Option Value) (h : Heap) (tk : Nat) (own : Led), i < n → OwnOff own ((Ld c).map (·.1)) → P i c →
      Fr h₀ env.locals h (kstB (fun z => if stored.contains z then u z else m₀ z) (ps c)) → News h₀ env.locals h (Ld c ++ own) →
      wpAny (model prog w) A (assign (.Name x px) env (.int (a₀ + (i : Int)) t)) (fun _ s₃ => wpAny (model prog w) A (execs body env) (InvPostG h₀ env.locals (LtS Ld ps stored m₀ P (i + 1)) own { s with heap := h, toks := tk } Q) E s₃) E { s with heap := h, toks := tk })
    (done : ∀ (c : σ) (u : Str → Option Value) (h : Heap) (tk : Nat), P n c → Fr h₀ env.locals h (kstB (fun z => if stored.contains z then u z else m₀ z) (ps c)) → News h₀ env.locals h (Ld c) → Q .next { s with heap := h, toks := tk }) :
    wpAny (model prog w) A (pyIter (.ref r)) (fun it s₂ => TurnsAt prog w A h₀ env (.Name x px) body Q E it s₂) E s := by
  refine wpAny_pyIter_range hr hsmall ?_
  have W : Walks prog w A s.heap.objs.size [s.heap.objs.size] [s.heap.objs.size] n (fun i v => i < n ∧ ∃ t, v = .int (a₀ + i * 1) t)
      (fun i h => IsRangeIter h s.heap.objs.size (a₀ + (i : Nat) * 1) ((n : Int) - (i : Nat)) 1) := (Walks.range hh _ a₀ 1 n).bound
  have W2 := KTurns.ofWalks (target := .Name x px) W (fun i v s Q E st q => by show wpAny _ _ (pure ()) _ _ _; exact wpAny_pure q)
  refine ⟨_, _, _, n, _, _, _, m₀, Ld c₀, (fun i m nx => LtS Ld ps stored m₀ P i m nx), rfl, W2, ?_, ?_, ?_, (by show IsRangeIter _ _ _ _ _; rw [hsz]; simpa using Heap.get?_push_size _ rfl), F.push _, (fun p hp => ⟨Heap.get?_push_of_some _ (N p hp).1, (N p hp).2⟩), ⟨c₀, rfl, hk, fun _ _ _ => rfl, hp⟩, ?_, ?_⟩
  · intro hm
    exact absurd F.ns.lt ((List.mem_singleton.mp hm) ▸ Nat.lt_irrefl _)
  · intro b hb
    rw [List.mem_singleton.mp hb]
    exact next_is_new F
  · intro p hp hI
    exact absurd (Heap.lt_size (N p hp).1) ((List.mem_singleton.mp hI) ▸ Nat.lt_irrefl _)
  · rintro i v m₁ news₁ h tk own hi ⟨_, t, rfl⟩ ⟨c, rfl, h1, h2, hp'⟩ hoff hown hget hfp hst F₁ N₁
    have e1 : a₀ + (i : Int) * 1 = a₀ + (i : Int) := by omega
    rw [e1]
    have hwr : h₀.get? s.heap.objs.size = none := next_is_new F
    have hsep : OwnOff own ((Ld c).map (·.1)) := by
      intro p hp b hb e
      obtain ⟨q, hq, rfl⟩ := List.mem_map.mp hb
      exact hoff q hq (e ▸ hown p hp)
    have N₂ : News h₀ env.locals h (Ld c ++ own) := fun p hp => N₁ p ((List.mem_append.mp hp).elim (fun h => List.mem_append.mpr (.inr h)) fun h => List.mem_append.mpr (.inl h))
    refine wpAny_mono (turn c i t m₁ h tk own hi hsep hp' (lt_fr h1 h2 F₁) N₂) (fun _ s₃ hq => wpAny_mono hq (fun f s₂ p => ?_) fun _ _ e => e) fun _ _ e => e
    have fin : InvEndG h₀ env.locals (LtS Ld ps stored m₀ P (i + 1)) own { s with heap := h, toks := tk } s₂ → LoopStepU h₀ env.locals [s.heap.objs.size] own (LtS Ld ps stored m₀ P (i + 1)) { s with heap := h, toks := tk } .next s₂ := by
      rintro ⟨h', tk', m', news', nx, e, F', N', hn, ho, ha, hm⟩
      refine ⟨rfl, h', tk', m', nx, e, F', fun p hp => N' p ((List.mem_append.mp hp).elim (ho p) (hn p)), fun p hp hq => ?_, hm⟩
      have hq' := List.mem_singleton.mp hq
      have hst' : h.get? s.heap.objs.size = some _ := hst
      exact ha _ (hfp _ (List.mem_singleton.mpr rfl) hwr _ hst') p.1 (List.mem_map.mpr ⟨p, hp, rfl⟩) hq'.symm
    cases f with
    | ret v => exact .ret p
    | brk => exact .brk p
    | next => exact .next (fin p)
    | cont => exact .cont (fin p)
  · rintro h' tk m' news' F' N' _ ⟨c, rfl, h1, h2, hp'⟩
    exact done c m' h' tk hp' (lt_fr h1 h2 F') N'
end
abbrev tupOb (its : Array Value) (n : Nat) : Obj := { cls := .type "tuple", data := .seq its n }
/-- the parts of a Whitespace object in the ledger -/
structure WsAt (w : World) (news : Led) (x : Addr) (n nt b : Int) (cn : List Int) (dx tp ct : Addr) (vs : List Value) (raw : Str) (t1 t2 t3 t4 t5 t6 t7 t8 t9 : Tok) (k1 k2 : Nat) : Prop where
  obj : (x, instObj 76 dx) ∈ news
  dct : (dx, dictOf [⟨PyData.keyHash w.params (Str.ofString "raw"), .str (Str.ofString "raw") t1, .str raw t2⟩, ⟨PyData.keyHash w.params (Str.ofString "n"), .str (Str.ofString "n") t3, .int n t4⟩,
    ⟨PyData.keyHash w.params (Str.ofString "nt"), .str (Str.ofString "nt") t5, .int nt t6⟩, ⟨PyData.keyHash w.params (Str.ofString "norm"), .str (Str.ofString "norm") t7, .ref tp⟩,
    ⟨PyData.keyHash w.params (Str.ofString "is_simple"), .str (Str.ofString "is_simple") t8, .bool (decide ((cn.length : Int) ≤ 1))⟩] 5) ∈ news
  nrm : (tp, tupOb #[.ref ct, .int b t9] k1) ∈ news
  cntT : (ct, tupOb vs.toArray k2) ∈ news
  itg : IntsAre vs cn
  lenB : cn.length < 400
  bLo : 0 ≤ b
  bHi : b < 400
def Ws (w : World) (news : Led) (v : Value) (n nt b : Int) (cn : List Int) : Prop :=
  ∃ x dx tp ct vs raw t1 t2 t3 t4 t5 t6 t7 t8 t9 k1 k2, v = .ref x ∧ WsAt w news x n nt b cn dx tp ct vs raw t1 t2 t3 t4 t5 t6 t7 t8 t9 k1 k2
theorem WsAt.mono {w : World} {news news' : Led} {x : Addr} {n nt b : Int} {cn : List Int} {dx tp ct : Addr} {vs : List Value} {raw : Str} {t1 t2 t3 t4 t5 t6 t7 t8 t9 : Tok} {k1 k2 : Nat} (h : WsAt w news x n nt b cn dx tp ct vs raw t1 t2 t3 t4 t5 t6 t7 t8 t9 k1 k2) (hs : ∀ p ∈ news, p ∈ news') : WsAt w news' x n nt b cn dx tp ct vs raw t1 t2 t3 t4 t5 t6 t7 t8 t9 k1 k2 :=
  ⟨hs _ h.obj, hs _ h.dct, hs _ h.nrm, hs _ h.cntT, h.itg, h.lenB, h.bLo, h.bHi⟩
theorem Ws.mono {w : World} {news news' : Led} {v : Value} {n nt b : Int} {cn : List Int} (h : Ws w news v n nt b cn) (hs : ∀ p ∈ news, p ∈ news') : Ws w news' v n nt b cn := by
  obtain ⟨x, dx, tp, ct, vs, raw, t1, t2, t3, t4, t5, t6, t7, t8, t9, k1, k2, e, W⟩ := h
  exact ⟨x, dx, tp, ct, vs, raw, t1, t2, t3, t4, t5, t6, t7, t8, t9, k1, k2, e, W.mono hs⟩
theorem Ws.elim {w : World} {news : Led} {v : Value} {n nt b : Int} {cn : List Int} {C : Prop} (h : Ws w news v n nt b cn)
    (k : ∀ (x dx tp ct : Addr) (vs : List Value) (raw : Str) (t1 t2 t3 t4 t5 t6 t7 t8 t9 : Tok) (k1 k2 : Nat), v = .ref x → (x, instObj 76 dx) ∈ news → (dx, dictOf [⟨PyData.keyHash w.params (Str.ofString "raw"), .str (Str.ofString "raw") t1, .str raw t2⟩, ⟨PyData.keyHash w.params (Str.ofString "n"), .str (Str.ofString "n") t3, .int n t4⟩, ⟨PyData.keyHash w.params (Str.ofString "nt"), .str (Str.ofString "nt") t5, .int nt t6⟩, ⟨PyData.keyHash w.params (Str.ofString "norm"), .str (Str.ofString "norm") t7, .ref tp⟩, ⟨PyData.keyHash w.params (Str.ofString "is_simple"), .str (Str.ofString "is_simple") t8, .bool (decide ((cn.length : Int) ≤ 1))⟩] 5) ∈ news → (tp, tupOb #[.ref ct, .int b t9] k1) ∈ news → (ct, tupOb vs.toArray k2) ∈ news → IntsAre vs cn → cn.length < 400 → 0 ≤ b → b < 400 → C) : C := by
  obtain ⟨x, dx, tp, ct, vs, raw, t1, t2, t3, t4, t5, t6, t7, t8, t9, k1, k2, e, W⟩ := h
  exact k x dx tp ct vs raw t1 t2 t3 t4 t5 t6 t7 t8 t9 k1 k2 e W.obj W.dct W.nrm W.cntT W.itg W.lenB W.bLo W.bHi
/-- what a method's look-up asks of a Whitespace object -/
theorem Ws.look {w : World} {news : Led} {v : Value} {n nt b : Int} {cn : List Int} {C : Prop} (h : Ws w news v n nt b cn)
    (k : ∀ (x dx tp : Addr) (raw : Str) (t1 t2 t3 t4 t5 t6 t7 t8 : Tok), v = .ref x → (x, instObj 76 dx) ∈ news → (dx, dictOf [⟨PyData.keyHash w.params (Str.ofString "raw"), .str (Str.ofString "raw") t1, .str raw t2⟩, ⟨PyData.keyHash w.params (Str.ofString "n"), .str (Str.ofString "n") t3, .int n t4⟩, ⟨PyData.keyHash w.params (Str.ofString "nt"), .str (Str.ofString "nt") t5, .int nt t6⟩, ⟨PyData.keyHash w.params (Str.ofString "norm"), .str (Str.ofString "norm") t7, .ref tp⟩, ⟨PyData.keyHash w.params (Str.ofString "is_simple"), .str (Str.ofString "is_simple") t8, .bool (decide ((cn.length : Int) ≤ 1))⟩] 5) ∈ news → C) : C := by
  obtain ⟨x, dx, tp, ct, vs, raw, t1, t2, t3, t4, t5, t6, t7, t8, t9, k1, k2, e, W⟩ := h
  exact k x dx tp raw t1 t2 t3 t4 t5 t6 t7 t8 e W.obj W.dct
section
variable {prog : Program} {w : World} {A : Around} {E : Value → Shared → Prop} {s : Shared} {h₀ : Heap} {L l : Addr}
theorem len_tupM {news : Led} {us : List Value} {k c : Nat} {Q : Value → Shared → Prop} (N : News h₀ L s.heap news) (hm : (l, tupOb us.toArray c) ∈ news) (e : us.length = k) (hfit : (k : Int) < 2 ^ 63)
    (h : Q (.int (k : Int) (s.toks + 1)) { s with toks := s.toks + 1 + 1 }) : wpAny (model prog w) A (call (.builtin "len") [.ref l]) Q E s := by
  have hl : IsTup s.heap l us.toArray := ⟨_, (N _ hm).1, rfl, c, rfl⟩
  have e2 : us.toArray.size = k := by rw [List.size_toArray, e]
  exact len_tuple hl (by rw [e2]; exact hfit) (by rw [e2]; exact h)
theorem len_listM {news : Led} {us : List Value} {k c : Nat} {Q : Value → Shared → Prop} (N : News h₀ L s.heap news) (hm : (l, listOf us.toArray c) ∈ news) (e : us.length = k) (hfit : (k : Int) < 2 ^ 63)
    (h : Q (.int (k : Int) (s.toks + 1)) { s with toks := s.toks + 1 + 1 }) : wpAny (model prog w) A (call (.builtin "len") [.ref l]) Q E s := kst_len N hm e hfit h
theorem item_tupM {value slice : Expr} {news : Led} {us : List Value} {ns : List Int} {c : Nat} {k : Int} {u : Tok} {Q : Value → Shared → Prop} (N : News h₀ L s.heap news) (hm : (l, tupOb us.toArray c) ∈ news) (hi : IntsAre us ns) (h0 : 0 ≤ k) (h1 : k < (ns.length : Int)) (hfit : (ns.length : Int) < 2 ^ 62)
    (h : ∀ t, Q (.int (ns.getD k.toNat 0) t) s)
    (hs : subscripted slice false (.ref l) (.int k u) = operate [.ref l, .int k u] (getItem (.ref l) (.int k u)) := by with_unfolding_all rfl) :
    wpAny (model prog w) A (subscriptTail value slice (.ref l) (.int k u)) Q E s := by
  have hl : IsTup s.heap l us.toArray := ⟨_, (N _ hm).1, rfl, c, rfl⟩
  have hlen := hi.length
  have hk : k.toNat < ns.length := by omega
  obtain ⟨t, ht⟩ := hi.get k.toNat (ns[k.toNat]'hk) (List.getElem?_eq_getElem hk)
  have hg : ns.getD k.toNat 0 = ns[k.toNat]'hk := by simp [List.getD, List.getElem?_eq_getElem hk]
  refine item_tupleT hl (j := k.toNat) (x := .int (ns[k.toNat]'hk) t) (by omega) (by omega) ?_ ht (hg ▸ h t) hs
  unfold seqIndex?
  have : ¬ k < 0 := by omega
  simp [this]
  omega
theorem item_listM {value slice : Expr} {news : Led} {us : List Value} {ns : List Int} {c : Nat} {k : Int} {u : Tok} {Q : Value → Shared → Prop} (N : News h₀ L s.heap news) (hm : (l, listOf us.toArray c) ∈ news) (hi : IntsAre us ns) (h0 : 0 ≤ k) (h1 : k < (ns.length : Int)) (hfit : (ns.length : Int) < 2 ^ 62)
    (h : ∀ t, Q (.int (ns.getD k.toNat 0) t) s)
    (hs : subscripted slice false (.ref l) (.int k u) = operate [.ref l, .int k u] (getItem (.ref l) (.int k u)) := by with_unfolding_all rfl) :
    wpAny (model prog w) A (subscriptTail value slice (.ref l) (.int k u)) Q E s := by
  have hl : s.heap.IsList l us.toArray := ⟨_, (N _ hm).1, rfl, c, rfl⟩
  have hlen := hi.length
  have hk : k.toNat < ns.length := by omega
  obtain ⟨t, ht⟩ := hi.get k.toNat (ns[k.toNat]'hk) (List.getElem?_eq_getElem hk)
  have hg : ns.getD k.toNat 0 = ns[k.toNat]'hk := by simp [List.getD, List.getElem?_eq_getElem hk]
  exact tail_any hl.typeIs slot_list_getitem.lookup (wpAny_getItem_list hl h0 (by omega) (by simpa using ht) (hg ▸ h t)) hs
end
theorem item_at0 {prog : Program} {w : World} {A : Around} {E : Value → Shared → Prop} {s : Shared} {h₀ : Heap} {L l : Addr} {value slice : Expr} {news : Led} {v : Value} {c : Nat} {u : Tok} {Q : Value → Shared → Prop} (N : News h₀ L s.heap news) (hm : (l, listOf #[v] c) ∈ news) (h : Q v s)
    (hs : subscripted slice false (.ref l) (.int 0 u) = operate [.ref l, .int 0 u] (getItem (.ref l) (.int 0 u)) := by with_unfolding_all rfl) :
    wpAny (model prog w) A (subscriptTail value slice (.ref l) (.int 0 u)) Q E s := by
  have hl : s.heap.IsList l #[v] := ⟨_, (N _ hm).1, rfl, c, rfl⟩
  exact tail_any hl.typeIs slot_list_getitem.lookup (wpAny_getItem_list hl (by decide) (by decide) rfl h) hs
theorem len_mul_sp (n : Int) (h : n ≤ 1000) : (Txt.mul (Str.ofString " ") n).length ≤ 1000 := by
  unfold Txt.mul
  by_cases h1 : n < 1
  · rw [if_pos h1]; decide
  · rw [if_neg h1]
    split
    · decide +kernel
    · rename_i h2
      have e : Str.ofString " " = ⟨#[32]⟩ := by decide +kernel
      rw [e]
      have key : ∀ (k : Nat) (acc : Array Nat), ((List.replicate k (#[32] : Array Nat)).foldl (· ++ ·) acc).size = acc.size + k := by
        intro k
        induction k with
        | zero => intro acc; simp
        | succ k ih => intro acc; rw [List.replicate_succ, List.foldl_cons, ih]; simp; omega
      show ((List.replicate n.toNat (#[32] : Array Nat)).foldl (· ++ ·) #[]).size ≤ 1000
      rw [key]
      simp
      omega
theorem small_of {a b : Int} (h1 : -1000000 ≤ a) (h2 : a ≤ 1000000) (h3 : -1000000 ≤ b) (h4 : b ≤ 1000000) : Builtin.Range.small a b 1 = true := by
  unfold Builtin.Range.small
  rw [rangeSize_nat]
  unfold Builtin.Range.rangeFitsLong
  simp only [Bool.and_eq_true, Bool.or_eq_true, decide_eq_true_eq]
  refine ⟨⟨⟨⟨⟨by omega, by omega⟩, by omega, by omega⟩, by decide⟩, by omega, by omega⟩, .inr ?_⟩
  rw [if_pos (by decide)]
  simp only [Bool.and_eq_true, decide_eq_true_eq]
  omega
theorem mulOk_of {a b : Int} (h1 : a.natAbs < 2 ^ 1000) (h2 : b.natAbs < 2 ^ 1000) : IntMulOk a b := by
  have key : ∀ k : Int, k.natAbs < 2 ^ 1000 → Builtin.Int.intBits k ≤ 1000 := by
    intro k hk
    unfold Builtin.Int.intBits
    split
    · exact Nat.zero_le _
    · have : k.natAbs.log2 < 1000 := by
        rcases Nat.eq_zero_or_pos k.natAbs with h0 | hp
        · rw [h0]; decide
        · exact (Nat.log2_lt (Nat.ne_of_gt hp)).mpr hk
      omega
  have b1 := key a h1
  have b2 := key b h2
  unfold IntMulOk
  have : Builtin.Int.intTooBig (Builtin.Int.intBits a + Builtin.Int.intBits b) = false := by
    unfold Builtin.Int.intTooBig
    have hb : (2000 : Int) ≤ bitsLine := by decide
    clear h1 h2
    exact decide_eq_false (by omega)
  rw [this]
  simp
section
variable {prog : Program} {w : World} {A : Around} {h₀ : Heap} {L : Addr} {m : Str → Option Value} {env : Env} {elt : Expr} {x : Str} {scope : Scope} {cl : List (Str × Addr)} {s : Shared} {S : Led → Prop} {P : Nat → Value → Prop} {Fin : List Value → Led → Prop} {news : Led}
/-- a comprehension by what holds between its turns -/
theorem cr_inv {n : Nat} (J : Nat → List Value → Led → Prop) (h0 : J 0 [] news)
    (turn : ∀ i v I oI C oC D m₂ ys nw h tk (E' : Value → Shared → Prop), i < n → P i v → J i ys nw → LCg.NsObj oC m₂ → m₂ x = some v → Fr h₀ L h m → News h₀ L h ((I, oI) :: (C, oC) :: (D, LCg.lst ys) :: nw) → LCg.Off3 I C D nw → ((@Ne Nat I C) ∧ (@Ne Nat I D) ∧ (@Ne Nat C D)) →
      wpAny (model prog w) A (eval elt (compEnvC scope cl C env)) (LCg.CompEnd h₀ L m { s with heap := h, toks := tk } I oI C oC D (LCg.lst ys) S (fun y news' => J (i + 1) (ys ++ [y]) news')) E' { s with heap := h, toks := tk })
    (fin : ∀ ys nw, J n ys nw → Fin ys nw) : LCg.CompRest prog w A h₀ L m env elt x scope cl s S P Fin n 0 [] news := by
  have key : ∀ (j i : Nat) (ys : List Value) (nw : Led), i + j = n → J i ys nw → LCg.CompRest prog w A h₀ L m env elt x scope cl s S P Fin j i ys nw := by
    intro j
    induction j with
    | zero =>
      intro i ys nw hi hy
      have e : i = n := by omega
      subst e
      exact LCg.CompRest.zero (fin ys nw hy)
    | succ j ih =>
      intro i ys nw hi hy
      refine LCg.CompRest.succ ?_
      intro v I oI C oC D m₂ h tk E' hv hC hx F N off ne
      refine wpAny_mono (turn i v I oI C oC D m₂ ys nw h tk E' (by omega) hv hy hC hx F N off ne) (fun y s₂ hq => ?_) fun _ _ e => e
      obtain ⟨h', tk', nw', e, F', N', off', hS, hJ⟩ := hq
      exact ⟨h', tk', nw', e, F', N', off', hS, ih (i + 1) _ _ (by omega) hJ⟩
  exact key n 0 [] news (by omega) h0
/-- the same for a comprehension with a test -/
theorem crT_inv {ct : Expr} {n : Nat} (J : Nat → List Value → Led → Prop) (h0 : J 0 [] news)
    (turn : ∀ i v I oI C oC D m₂ ys nw h tk (E' : Value → Shared → Prop), i < n → P i v → J i ys nw → LCg.NsObj oC m₂ → m₂ x = some v → Fr h₀ L h m → News h₀ L h ((I, oI) :: (C, oC) :: (D, LCg.lst ys) :: nw) → LCg.Off3 I C D nw → ((@Ne Nat I C) ∧ (@Ne Nat I D) ∧ (@Ne Nat C D)) →
      wpAny (model prog w) A (isTrue ct (compEnvC scope cl C env) (eval ct (compEnvC scope cl C env))) (fun ok s' => if ok = true then
        wpAny (model prog w) A (eval elt (compEnvC scope cl C env)) (LCg.CompEnd h₀ L m { s with heap := h, toks := tk } I oI C oC D (LCg.lst ys) S (fun y news' => J (i + 1) (ys ++ [y]) news')) E' s'
        else LCg.CompEnd h₀ L m { s with heap := h, toks := tk } I oI C oC D (LCg.lst ys) S (fun _ news' => J (i + 1) ys news') Value.none s') E' { s with heap := h, toks := tk })
    (fin : ∀ ys nw, J n ys nw → Fin ys nw) : LCt.CompRestT prog w A h₀ L m env ct elt x scope cl s S P Fin n 0 [] news := by
  have key : ∀ (j i : Nat) (ys : List Value) (nw : Led), i + j = n → J i ys nw → LCt.CompRestT prog w A h₀ L m env ct elt x scope cl s S P Fin j i ys nw := by
    intro j
    induction j with
    | zero =>
      intro i ys nw hi hy
      have e : i = n := by omega
      subst e
      exact LCt.CompRestT.zero (fin ys nw hy)
    | succ j ih =>
      intro i ys nw hi hy
      refine LCt.CompRestT.succ ?_
      intro v I oI C oC D m₂ h tk E' hv hC hx F N off ne
      refine wpAny_mono (turn i v I oI C oC D m₂ ys nw h tk E' (by omega) hv hy hC hx F N off ne) (fun ok s' hq => ?_) fun _ _ e => e
      cases ok with
      | true =>
        rw [if_pos rfl] at hq ⊢
        refine wpAny_mono hq (fun y s₂ hq => ?_) fun _ _ e => e
        obtain ⟨h', tk', nw', e, F', N', off', hS, hJ⟩ := hq
        exact ⟨h', tk', nw', e, F', N', off', hS, ih (i + 1) _ _ (by omega) hJ⟩
      | false =>
        rw [if_neg (by decide)] at hq ⊢
        obtain ⟨h', tk', nw', e, F', N', off', hS, hJ⟩ := hq
        exact ⟨h', tk', nw', e, F', N', off', hS, ih (i + 1) _ _ (by omega) hJ⟩
  exact key n 0 [] news (by omega) h0
end
theorem item_refM {prog : Program} {w : World} {A : Around} {E : Value → Shared → Prop} {s : Shared} {h₀ : Heap} {L l : Addr} {value slice : Expr} {news : Led} {us : List Value} {v : Value} {c : Nat} {k : Int} {u : Tok} {Q : Value → Shared → Prop} (N : News h₀ L s.heap news) (hm : (l, listOf us.toArray c) ∈ news) (h0 : 0 ≤ k) (hfit : k < 2 ^ 62) (hx : us[k.toNat]? = some v)
    (h : Q v s)
    (hs : subscripted slice false (.ref l) (.int k u) = operate [.ref l, .int k u] (getItem (.ref l) (.int k u)) := by with_unfolding_all rfl) :
    wpAny (model prog w) A (subscriptTail value slice (.ref l) (.int k u)) Q E s := by
  have hl : s.heap.IsList l us.toArray := ⟨_, (N _ hm).1, rfl, c, rfl⟩
  exact tail_any hl.typeIs slot_list_getitem.lookup (wpAny_getItem_list hl h0 (by omega) (by simpa using hx) h) hs
theorem ints_filterMap {vs : List Value} {ns : List Int} (hi : IntsAre vs ns) : ∀ idx : List Nat, IntsAre (idx.filterMap (vs.toArray[·]?)) (idx.filterMap (ns[·]?))
  | [] => .nil
  | k :: r => by
    rw [List.filterMap_cons, List.filterMap_cons]
    have hl := hi.length
    rcases Nat.lt_or_ge k ns.length with h | h
    · obtain ⟨t, ht⟩ := hi.get k (ns[k]'h) (List.getElem?_eq_getElem h)
      have e1 : vs.toArray[k]? = some (.int (ns[k]'h) t) := by simpa using ht
      rw [e1, List.getElem?_eq_getElem h]
      exact .cons _ _ (ints_filterMap hi r)
    · have e1 : vs.toArray[k]? = none := by simp; omega
      rw [e1, List.getElem?_eq_none h]
      exact ints_filterMap hi r
theorem ints_pick {vs : List Value} {ns : List Int} {lo hi' st : Option Int} (hi : IntsAre vs ns) :
    IntsAre (slicePick vs.toArray lo hi' st).toList ((sliceRange (sliceBounds lo hi' st vs.toArray.size).1 (sliceBounds lo hi' st vs.toArray.size).2.1 (sliceBounds lo hi' st vs.toArray.size).2.2).filterMap (ns[·]?)) := ints_filterMap hi _
theorem add_ct (w : World) (mean : ExcName → Option Value) (mg mb : Str → Option Value) (x y : Int) (tx ty : Tok) :
   Ct w mean mg mb 87 1 [.int x tx, .int y ty] (fun _ => True) (fun _ tl r => tl = [] ∧ ∃ t, r = .int (x + y) t) := by
  unfold Ct
  k_fill
  intro dp un gd cn cs a ccd cl outer A₀ base h₀ L m news s Q E B F X N T hk hP hd hu hret
  refine wpAny_call ?_
  k_dflt ktr_enter
  k_steps
  exact hret _ [] _ _ (by k_asm) (by k_asm) (fun _ _ _ h => nomatch h) ⟨rfl, _, rfl⟩
theorem mul_ct (w : World) (mean : ExcName → Option Value) (mg mb : Str → Option Value) (x y : Int) (tx ty : Tok) (hm : IntMulOk x y) :
   Ct w mean mg mb 101 1 [.int x tx, .int y ty] (fun _ => True) (fun _ tl r => tl = [] ∧ ∃ t, r = .int (x * y) t) := by
  unfold Ct
  k_fill
  intro dp un gd cn cs a ccd cl outer A₀ base h₀ L m news s Q E B F X N T hk hP hd hu hret
  refine wpAny_call ?_
  k_dflt ktr_enter
  k_steps
  exact hret _ [] _ _ (by k_asm) (by k_asm) (fun _ _ _ h => nomatch h) ⟨rfl, _, rfl⟩
theorem mod_ct (w : World) (mean : ExcName → Option Value) (mg mb : Str → Option Value) (x y : Int) (tx ty : Tok) (hy : y ≠ 0) :
   Ct w mean mg mb 94 1 [.int x tx, .int y ty] (fun _ => True) (fun _ tl r => tl = [] ∧ ∃ t, r = .int (x.fmod y) t) := by
  unfold Ct
  k_fill
  intro dp un gd cn cs a ccd cl outer A₀ base h₀ L m news s Q E B F X N T hk hP hd hu hret
  refine wpAny_call ?_
  k_dflt ktr_enter
  k_steps
  exact hret _ [] _ _ (by k_asm) (by k_asm) (fun _ _ _ h => nomatch h) ⟨rfl, _, rfl⟩
theorem ipow_ct (w : World) (mean : ExcName → Option Value) (mg mb : Str → Option Value) (x y : Int) (tx ty : Tok) (hx : x.natAbs < 2 ^ 64) (hy : 0 ≤ y) (hy2 : y ≤ 1000000) :
   Ct w mean mg mb 115 1 [.int x tx, .int y ty] (fun _ => True) (fun _ tl r => tl = [] ∧ ∃ t, r = .int (x ^ y.toNat) t) := by
  unfold Ct
  k_fill
  intro dp un gd cn cs a ccd cl outer A₀ base h₀ L m news s Q E B F X N T hk hP hd hu hret
  refine wpAny_call ?_
  k_dflt ktr_enter
  k_steps
  exact hret _ [] _ _ (by k_asm) (by k_asm) (fun _ _ _ h => nomatch h) ⟨rfl, _, rfl⟩
local macro_rules | `(tactic| units_room) => `(tactic| (ktr_units))
/-- the word's letters lie in the ledger, each in a list of its own -/
inductive Lets (news : Led) : List Value → List Int → Prop
  | nil : Lets news [] []
  | cons {a : Addr} {n : Nat} {l : Int} {t : Tok} {vs ls} : (a, listOf #[.int l t] n) ∈ news → Lets news vs ls → Lets news (.ref a :: vs) (l :: ls)
def IsWord (news : Led) (v : Value) (ls : List Int) : Prop := ∃ a vs n, v = .ref a ∧ (a, listOf vs.toArray n) ∈ news ∧ Lets news vs ls
theorem Lets.get {news : Led} {vs : List Value} {ls : List Int} (h : Lets news vs ls) : ∀ {i : Nat} {v : Value}, vs[i]? = some v → ∃ a n l t, v = .ref a ∧ (a, listOf #[.int l t] n) ∈ news ∧ ls[i]? = some l := by
  induction h with
  | nil => intro i v h; simp at h
  | @cons a n l t vs ls hm _ ih =>
    intro i v h
    cases i with
    | zero => simp at h; exact ⟨a, n, l, t, h.symm, hm, by simp⟩
    | succ i => simp at h; obtain ⟨a', n', l', t', e, hm', hl⟩ := ih h; exact ⟨a', n', l', t', e, hm', by simpa using hl⟩
theorem Lets.length {news : Led} {vs : List Value} {ls : List Int} (h : Lets news vs ls) : vs.length = ls.length := by
  induction h with
  | nil => rfl
  | cons _ _ ih => simp [ih]
def cnt (ls : List Int) (k : Int) : Int := ((ls.filter (· = k)).length : Int)
theorem cnt_take {ls : List Int} {i : Nat} {l k : Int} (h : ls[i]? = some l) : cnt (ls.take (i+1)) k = cnt (ls.take i) k + if l = k then 1 else 0 := by
  unfold cnt
  rw [List.take_add_one, h]
  simp only [Option.toList_some, List.filter_append, List.length_append, Int.natCast_add]
  by_cases e : l = k <;> simp [e]
theorem countOf_ct (w : World) (mean : ExcName → Option Value) (mg mb : Str → Option Value) (v : Value) (ak : Addr) (nk : Nat) (ls : List Int) (k : Int) (tk : Tok) :
   Ct w mean mg mb 108 1 [v, .ref ak] (fun news => IsWord news v ls ∧ (ak, listOf #[.int k tk] nk) ∈ news) (fun _ tl r => tl = [] ∧ ∃ t, r = .int (cnt ls k) t) := by
  unfold Ct
  k_fill
  intro dp un gd cn cs a ccd cl outer A₀ base h₀ L m news s Q E B F X N T hk hP hd hu hret
  obtain ⟨⟨aw, vs, nw, rfl, hw, hls⟩, hkk⟩ := hP
  refine wpAny_call ?_
  k_dflt ktr_enter
  rename Fr _ _ _ (fun y => List.lookup y _) => lF
  with_unfolding_all replace lF := fr_of_lookup (l := [(Str.ofString "b", .ref ak), (Str.ofString "a", .ref aw)]) lF
  k_steps
  rename Fr _ _ _ _ => lF
  with_unfolding_all refine' For_invVF lF ?k1 ?k2 ?_
  (case k1 => exact rfl)
  (case k2 => exact rfl)
  walk1
  rename News _ _ _ _ => lN
  with_unfolding_all refine' lp_list (σ := Int × Tok) (fun _ => news) (fun c => [(Str.ofString "count", .int c.1 c.2)]) [] (fun i c => c.1 = cnt (ls.take i) k) (0, _) ?k1 ?k2 lF lN ?k3 ?k4 ?k5 ?k6
  (case k1 => exact rfl)
  (case k2 => exact fun _ => hw)
  (case k3 => exact List.forall_mem_cons.mpr ⟨by with_unfolding_all rfl, List.forall_mem_nil _⟩)
  (case k4 => simp [cnt])
  · intro c i v u h' tk' own hv hoff hP' F' N'
    obtain ⟨a', n', l', t', rfl, hm', hl'⟩ := hls.get hv
    have hN1 := (N' _ (List.mem_append.mpr (.inl hm'))).1
    have hN2 := (N' _ (List.mem_append.mpr (.inl hkk))).1
    try k_fold
    by_cases hne : a' = ak
    · subst hne
      have hlk : l' = k := by
        dsimp only at hN1 hN2
        rw [hN1] at hN2
        have := Option.some.inj hN2
        simp at this
        exact this.1.1
      clear hN1 hN2
      k_steps
      refine lp_end (_, _) (by k_asm) (by k_asm) (fun p hp => List.mem_append.mpr (.inl hp)) (fun p hp => List.mem_append.mpr (.inr hp)) hoff (List.forall_mem_cons.mpr ⟨by with_unfolding_all rfl, List.forall_mem_nil _⟩) (by ((intro mq_z mq_h1 mq_h2 mq_h3; simp only [List.forall_mem_cons] at mq_h2; simp [kstB, mq_h1, mq_h2]; done))) ?_
      dsimp only
      rw [cnt_take hl', hP', if_pos hlk]
    · replace hne := neN hne
      clear hN1 hN2
      k_steps
      all_goals (refine lp_end (_, _) (by k_asm) (by k_asm) (fun p hp => List.mem_append.mpr (.inl hp)) (fun p hp => List.mem_append.mpr (.inr hp)) hoff (List.forall_mem_cons.mpr ⟨by with_unfolding_all rfl, List.forall_mem_nil _⟩) (by ((intro mq_z mq_h1 mq_h2 mq_h3; simp only [List.forall_mem_cons] at mq_h2; simp [kstB, mq_h1, mq_h2]; done))) ?_)
      all_goals (dsimp only; rw [cnt_take hl', hP'])
      · rw [if_pos (by simp_all)]
      · rw [if_neg (by simp_all)]; omega
  · intro c u h' tk' hP' F' N'
    try k_fold
    k_steps
    have e : c.1 = cnt ls k := by
      rw [hP', hls.length, List.take_length]
    exact hret _ [] _ _ (by k_asm) (by k_asm) (fun _ _ _ h => nomatch h) ⟨rfl, c.2, by rw [← e]⟩
theorem Lets.mono {news news' : Led} {vs : List Value} {ls : List Int} (h : Lets news vs ls) (hs : ∀ p ∈ news, p ∈ news') : Lets news' vs ls := by
  induction h with
  | nil => exact .nil
  | cons hm _ ih => exact .cons (hs _ hm) ih
theorem IsWord.mono {news news' : Led} {v : Value} {ls : List Int} (h : IsWord news v ls) (hs : ∀ p ∈ news, p ∈ news') : IsWord news' v ls := by
  obtain ⟨a, vs, n, e, hm, hl⟩ := h
  exact ⟨a, vs, n, e, hs _ hm, hl.mono hs⟩
theorem longest_ct (w : World) (mean : ExcName → Option Value) (mg mb : Str → Option Value) (v : Value) (n nt b : Int) (cn : List Int) :
   Ct w mean mg mb 38 1 [v] (fun news => Ws w news v n nt b cn) (fun _ tl r => tl = [] ∧ ∃ t, r = .int (max ((cn.length : Int) - 1) b) t) := by
  unfold Ct
  k_fill
  intro dp un gd cs' cs a ccd cl outer A₀ base h₀ L m news s Q E B F X N T hk hP hd hu hret
  refine Ws.elim hP ?_
  intro x dx tp ct vs raw t1 t2 t3 t4 t5 t6 t7 t8 t9 k1 k2 ev_x hobj hdict hnorm hcount hints hlen hb0 hb1
  subst ev_x
  refine wpAny_call ?_
  k_dflt ktr_enter
  rename Fr _ _ _ (fun y => List.lookup y _) => lF
  with_unfolding_all replace lF := fr_of_lookup (l := [(Str.ofString "self", .ref x)]) lF
  (repeat' (first | (k_unfold; (try dsimp only)) | (k_end; wrow_close) | ((with_reducible show wpAny _ _ (execs (_ :: _) _) _ _ (Shared.mk _ _ _ (_ + 1) _)); (with_reducible refine toks_cut ?_); intro _) | ((first | ((with_reducible show wpAny _ _ (subscriptTail _ _ (Value.ref _) _) _ _ _); (first | ((k_here; (with_reducible show wpAny _ _ (subscriptTail _ _ (Value.ref _) (Value.int _ _)) _ _ _); k_dflt (refine' item_listM ?hqk1 ?hqk2 ?hqk3 ?hqk4 ?hqk5 ?hqk6 ?_; (case hqk1 => k_asm); (case hqk2 => k_mem); (case hqk3 => assumption); (case hqk4 | hqk5 | hqk6 => (first | lia | omega))); k_whole; intro _)) | ((k_here; (with_reducible show wpAny _ _ (subscriptTail _ _ (Value.ref _) (Value.int _ _)) _ _ _); k_dflt (refine' item_tupM ?hqk1 ?hqk2 ?hqk3 ?hqk4 ?hqk5 ?hqk6 ?_; (case hqk1 => k_asm); (case hqk2 => k_mem); (case hqk3 => assumption); (case hqk4 | hqk5 | hqk6 => (first | lia | omega))); k_whole; intro _)))) | ((with_reducible show wpAny _ _ (call (Value.builtin _) _) _ _ _); (first | ((k_here; (with_reducible show wpAny _ _ (call (Value.builtin "len") [Value.ref _]) _ _ _); k_dflt (refine' len_tupM ?hqk1 ?hqk2 ?hqk3 ?hqk4 ?_; (case hqk1 => k_asm); (case hqk2 => k_mem); (case hqk3 => exact IntsAre.length (by assumption)); (case hqk4 => (first | lia | omega))); k_whole)) | ((k_here; (with_reducible show wpAny _ _ (call (Value.builtin "len") [Value.ref _]) _ _ _); k_dflt (refine' len_listM ?hqk1 ?hqk2 ?hqk3 ?hqk4 ?_; (case hqk1 => k_asm); (case hqk2 => k_mem); (case hqk3 => exact IntsAre.length (by assumption)); (case hqk4 => (first | lia | omega))); k_whole)))))) | ((fail_if_success with_reducible (first | show wpAny _ _ (exec (Stmt.For _ _ _ _ _) _) _ _ _ | show wpAny _ _ (pyIter _) _ _ _)); first | walk1 | (dsimp only; walk1)) | (leave1; try dsimp only) | fail))
  refine hret _ [] _ _ (by k_asm) (by k_asm) (fun _ _ _ h => nomatch h) ⟨rfl, ktn_int ?_⟩
  split <;> (first | lia | omega)

/-- the sum that indent_level gathers, after k turns -/
def ilS (cn : List Int) (ts : Int) : Nat → Int
  | 0 => 0
  | k + 1 => ilS cn ts k + (ts + (k : Int)).fdiv ts * cn.getD (ts + (k : Int)).toNat 0
def lvl (nt b : Int) (cn : List Int) (ts : Int) : Int := b + ts * (ilS cn ts ((cn.length : Int) - ts).toNat + nt)
theorem indent_ct (w : World) (mean : ExcName → Option Value) (mg mb : Str → Option Value) (v : Value) (n nt b : Int) (cn : List Int) (ts : Int) (tt : Tok) (hts : 1 ≤ ts) (hts2 : ts < 1000) :
   Ct w mean mg mb 45 1 [v, .int ts tt] (fun news => Ws w news v n nt b cn) (fun _ tl r => tl = [] ∧ ∃ t, r = .int (lvl nt b cn ts) t) := by
  unfold Ct
  k_fill
  intro dp un gd cs' cs a ccd cl outer A₀ base h₀ L m news s Q E B F X N T hk hP hd hu hret
  refine Ws.elim hP ?_
  intro x dx tp ct vs raw t1 t2 t3 t4 t5 t6 t7 t8 t9 k1 k2 ev_x hobj hdict hnorm hcount hints hlen hb0 hb1
  subst ev_x
  refine wpAny_call ?_
  k_dflt ktr_enter
  rename Fr _ _ _ (fun y => List.lookup y _) => lF
  with_unfolding_all replace lF := fr_of_lookup (l := [(Str.ofString "tabsize", .int ts tt), (Str.ofString "self", .ref x)]) lF
  (repeat' (first | (k_unfold; (try dsimp only)) | (k_end; wrow_close) | ((with_reducible show wpAny _ _ (execs (_ :: _) _) _ _ (Shared.mk _ _ _ (_ + 1) _)); (with_reducible refine toks_cut ?_); intro _) | ((first | ((with_reducible show wpAny _ _ (subscriptTail _ _ (Value.ref _) _) _ _ _); (first | ((k_here; (with_reducible show wpAny _ _ (subscriptTail _ _ (Value.ref _) (Value.int _ _)) _ _ _); k_dflt (refine' item_listM ?hqk1 ?hqk2 ?hqk3 ?hqk4 ?hqk5 ?hqk6 ?_; (case hqk1 => k_asm); (case hqk2 => k_mem); (case hqk3 => assumption); (case hqk4 | hqk5 | hqk6 => (first | lia | omega))); k_whole; intro _)) | ((k_here; (with_reducible show wpAny _ _ (subscriptTail _ _ (Value.ref _) (Value.int _ _)) _ _ _); k_dflt (refine' item_tupM ?hqk1 ?hqk2 ?hqk3 ?hqk4 ?hqk5 ?hqk6 ?_; (case hqk1 => k_asm); (case hqk2 => k_mem); (case hqk3 => assumption); (case hqk4 | hqk5 | hqk6 => (first | lia | omega))); k_whole; intro _)))) | ((with_reducible show wpAny _ _ (call (Value.builtin _) _) _ _ _); (first | ((k_here; (with_reducible show wpAny _ _ (call (Value.builtin "len") [Value.ref _]) _ _ _); k_dflt (refine' len_tupM ?hqk1 ?hqk2 ?hqk3 ?hqk4 ?_; (case hqk1 => k_asm); (case hqk2 => k_mem); (case hqk3 => exact IntsAre.length (by assumption)); (case hqk4 => (first | lia | omega))); k_whole)) | ((k_here; (with_reducible show wpAny _ _ (call (Value.builtin "len") [Value.ref _]) _ _ _); k_dflt (refine' len_listM ?hqk1 ?hqk2 ?hqk3 ?hqk4 ?_; (case hqk1 => k_asm); (case hqk2 => k_mem); (case hqk3 => exact IntsAre.length (by assumption)); (case hqk4 => (first | lia | omega))); k_whole)))))) | ((fail_if_success with_reducible (first | show wpAny _ _ (exec (Stmt.For _ _ _ _ _) _) _ _ _ | show wpAny _ _ (pyIter _) _ _ _)); first | walk1 | (dsimp only; walk1)) | (leave1; try dsimp only) | fail))
  rename Fr _ _ _ _ => lF
  with_unfolding_all refine' For_invVF lF ?k1 ?k2 ?_
  (case k1 => exact rfl)
  (case k2 => exact rfl)
  (repeat' (first | (k_unfold; (try dsimp only)) | (k_end; wrow_close) | ((with_reducible show wpAny _ _ (execs (_ :: _) _) _ _ (Shared.mk _ _ _ (_ + 1) _)); (with_reducible refine toks_cut ?_); intro _) | ((first | ((with_reducible show wpAny _ _ (subscriptTail _ _ (Value.ref _) _) _ _ _); (first | ((k_here; (with_reducible show wpAny _ _ (subscriptTail _ _ (Value.ref _) (Value.int _ _)) _ _ _); k_dflt (refine' item_listM ?hqk1 ?hqk2 ?hqk3 ?hqk4 ?hqk5 ?hqk6 ?_; (case hqk1 => k_asm); (case hqk2 => k_mem); (case hqk3 => assumption); (case hqk4 | hqk5 | hqk6 => (first | lia | omega))); k_whole; intro _)) | ((k_here; (with_reducible show wpAny _ _ (subscriptTail _ _ (Value.ref _) (Value.int _ _)) _ _ _); k_dflt (refine' item_tupM ?hqk1 ?hqk2 ?hqk3 ?hqk4 ?hqk5 ?hqk6 ?_; (case hqk1 => k_asm); (case hqk2 => k_mem); (case hqk3 => assumption); (case hqk4 | hqk5 | hqk6 => (first | lia | omega))); k_whole; intro _)))) | ((with_reducible show wpAny _ _ (call (Value.builtin _) _) _ _ _); (first | ((k_here; (with_reducible show wpAny _ _ (call (Value.builtin "len") [Value.ref _]) _ _ _); k_dflt (refine' len_tupM ?hqk1 ?hqk2 ?hqk3 ?hqk4 ?_; (case hqk1 => k_asm); (case hqk2 => k_mem); (case hqk3 => exact IntsAre.length (by assumption)); (case hqk4 => (first | lia | omega))); k_whole)) | ((k_here; (with_reducible show wpAny _ _ (call (Value.builtin "len") [Value.ref _]) _ _ _); k_dflt (refine' len_listM ?hqk1 ?hqk2 ?hqk3 ?hqk4 ?_; (case hqk1 => k_asm); (case hqk2 => k_mem); (case hqk3 => exact IntsAre.length (by assumption)); (case hqk4 => (first | lia | omega))); k_whole)))))) | ((fail_if_success with_reducible (first | show wpAny _ _ (exec (Stmt.For _ _ _ _ _) _) _ _ _ | show wpAny _ _ (pyIter _) _ _ _)); first | walk1 | (dsimp only; walk1)) | (leave1; try dsimp only) | fail))
  rename Fr _ _ _ _ => lF
  rename News _ _ _ _ => lN
  with_unfolding_all refine' lp_range (σ := Int × Tok) (n := ((cn.length:Int) - ts).toNat) (fun _ => news) (fun c => [(Str.ofString "il", .int c.1 c.2)]) [] (fun i c => c.1 = ilS cn ts i) (0, _) ?k1 (by assumption) ?k2 ?k3 lF lN ?k4 ?k5 ?k6 ?k7
  (case k1 => exact rfl)
  (case k2 => exact small_of (by (first | lia | omega)) (by (first | lia | omega)) (by (first | lia | omega)) (by (first | lia | omega)))
  (case k3 => exact rangeSize_nat _ _)
  (case k4 => exact List.forall_mem_cons.mpr ⟨by with_unfolding_all rfl, List.forall_mem_nil _⟩)
  (case k5 => rfl)
  · intro c i t' u h' tk' own hi hoff hP' F' N'
    have hbM : IntMulOk ((ts + (i : Int)).fdiv ts) (cn.getD (ts + (i : Int)).toNat 0) := by
      refine IntMulOk.of_left (intBits_le_64 ?_ ?_)
      · have : 0 ≤ (ts + (i : Int)).fdiv ts := Int.fdiv_nonneg (by (first | lia | omega)) (by (first | lia | omega))
        (first | lia | omega)
      · rw [Int.fdiv_eq_ediv_of_nonneg _ (by (first | lia | omega))]
        have := Int.ediv_le_self ts (a := ts + (i : Int)) (by (first | lia | omega))
        (first | lia | omega)
    have hts0 : ts ≠ 0 := by (first | lia | omega)
    try k_fold
    (repeat' (first | (k_unfold; (try dsimp only)) | (k_end; wrow_close) | ((with_reducible show wpAny _ _ (execs (_ :: _) _) _ _ (Shared.mk _ _ _ (_ + 1) _)); (with_reducible refine toks_cut ?_); intro _) | ((first | ((with_reducible show wpAny _ _ (subscriptTail _ _ (Value.ref _) _) _ _ _); (first | ((k_here; (with_reducible show wpAny _ _ (subscriptTail _ _ (Value.ref _) (Value.int _ _)) _ _ _); k_dflt (refine' item_listM ?hqk1 ?hqk2 ?hqk3 ?hqk4 ?hqk5 ?hqk6 ?_; (case hqk1 => k_asm); (case hqk2 => k_mem); (case hqk3 => assumption); (case hqk4 | hqk5 | hqk6 => (first | lia | omega))); k_whole; intro _)) | ((k_here; (with_reducible show wpAny _ _ (subscriptTail _ _ (Value.ref _) (Value.int _ _)) _ _ _); k_dflt (refine' item_tupM ?hqk1 ?hqk2 ?hqk3 ?hqk4 ?hqk5 ?hqk6 ?_; (case hqk1 => k_asm); (case hqk2 => k_mem); (case hqk3 => assumption); (case hqk4 | hqk5 | hqk6 => (first | lia | omega))); k_whole; intro _)))) | ((with_reducible show wpAny _ _ (call (Value.builtin _) _) _ _ _); (first | ((k_here; (with_reducible show wpAny _ _ (call (Value.builtin "len") [Value.ref _]) _ _ _); k_dflt (refine' len_tupM ?hqk1 ?hqk2 ?hqk3 ?hqk4 ?_; (case hqk1 => k_asm); (case hqk2 => k_mem); (case hqk3 => exact IntsAre.length (by assumption)); (case hqk4 => (first | lia | omega))); k_whole)) | ((k_here; (with_reducible show wpAny _ _ (call (Value.builtin "len") [Value.ref _]) _ _ _); k_dflt (refine' len_listM ?hqk1 ?hqk2 ?hqk3 ?hqk4 ?_; (case hqk1 => k_asm); (case hqk2 => k_mem); (case hqk3 => exact IntsAre.length (by assumption)); (case hqk4 => (first | lia | omega))); k_whole)))))) | ((fail_if_success with_reducible (first | show wpAny _ _ (exec (Stmt.For _ _ _ _ _) _) _ _ _ | show wpAny _ _ (pyIter _) _ _ _)); first | walk1 | (dsimp only; walk1)) | (leave1; try dsimp only) | fail))
    refine lp_end (_, _) (by k_asm) (by k_asm) (fun p hp => List.mem_append.mpr (.inl hp)) (fun p hp => List.mem_append.mpr (.inr hp)) hoff (List.forall_mem_cons.mpr ⟨by with_unfolding_all rfl, List.forall_mem_nil _⟩) (by ((intro mq_z mq_h1 mq_h2 mq_h3; simp only [List.forall_mem_cons] at mq_h2; simp [kstB, mq_h1, mq_h2, mq_h3]; done))) ?_
    show c.1 + _ = ilS cn ts i + _
    rw [hP']
  · intro c u h' tk' hP' F' N'
    try k_fold
    (repeat' (first | (k_unfold; (try dsimp only)) | (k_end; wrow_close) | ((with_reducible show wpAny _ _ (execs (_ :: _) _) _ _ (Shared.mk _ _ _ (_ + 1) _)); (with_reducible refine toks_cut ?_); intro _) | ((first | ((with_reducible show wpAny _ _ (subscriptTail _ _ (Value.ref _) _) _ _ _); (first | ((k_here; (with_reducible show wpAny _ _ (subscriptTail _ _ (Value.ref _) (Value.int _ _)) _ _ _); k_dflt (refine' item_listM ?hqk1 ?hqk2 ?hqk3 ?hqk4 ?hqk5 ?hqk6 ?_; (case hqk1 => k_asm); (case hqk2 => k_mem); (case hqk3 => assumption); (case hqk4 | hqk5 | hqk6 => (first | lia | omega))); k_whole; intro _)) | ((k_here; (with_reducible show wpAny _ _ (subscriptTail _ _ (Value.ref _) (Value.int _ _)) _ _ _); k_dflt (refine' item_tupM ?hqk1 ?hqk2 ?hqk3 ?hqk4 ?hqk5 ?hqk6 ?_; (case hqk1 => k_asm); (case hqk2 => k_mem); (case hqk3 => assumption); (case hqk4 | hqk5 | hqk6 => (first | lia | omega))); k_whole; intro _)))) | ((with_reducible show wpAny _ _ (call (Value.builtin _) _) _ _ _); (first | ((k_here; (with_reducible show wpAny _ _ (call (Value.builtin "len") [Value.ref _]) _ _ _); k_dflt (refine' len_tupM ?hqk1 ?hqk2 ?hqk3 ?hqk4 ?_; (case hqk1 => k_asm); (case hqk2 => k_mem); (case hqk3 => exact IntsAre.length (by assumption)); (case hqk4 => (first | lia | omega))); k_whole)) | ((k_here; (with_reducible show wpAny _ _ (call (Value.builtin "len") [Value.ref _]) _ _ _); k_dflt (refine' len_listM ?hqk1 ?hqk2 ?hqk3 ?hqk4 ?_; (case hqk1 => k_asm); (case hqk2 => k_mem); (case hqk3 => exact IntsAre.length (by assumption)); (case hqk4 => (first | lia | omega))); k_whole)))))) | ((fail_if_success with_reducible (first | show wpAny _ _ (exec (Stmt.For _ _ _ _ _) _) _ _ _ | show wpAny _ _ (pyIter _) _ _ _)); first | walk1 | (dsimp only; walk1)) | (leave1; try dsimp only) | fail))
    exact hret _ [] _ _ (by k_asm) (by k_asm) (fun _ _ _ h => nomatch h) ⟨rfl, ktn_int (by rw [hP']; rfl)⟩
def lessV (n1 nt1 b1 : Int) (c1 : List Int) (n2 nt2 b2 : Int) (c2 : List Int) : Bool :=
  if n1 ≥ n2 then false else if c1.length ≤ 1 ∧ c2.length ≤ 1 then decide (nt1 ≤ nt2) else
    decide (∀ i : Nat, i < (max (max ((c1.length : Int) - 1) b1) (max ((c2.length : Int) - 1) b2) + 1 + 1 - 2).toNat → lvl nt1 b1 c1 (2 + (i : Int)) < lvl nt2 b2 c2 (2 + (i : Int)))
theorem less_ct (w : World) (mean : ExcName → Option Value) (mg mb : Str → Option Value) (v1 v2 : Value) (n1 nt1 b1 : Int) (c1 : List Int) (n2 nt2 b2 : Int) (c2 : List Int) :
   Ct w mean mg mb 66 2 [v1, v2] (fun news => Ws w news v1 n1 nt1 b1 c1 ∧ Ws w news v2 n2 nt2 b2 c2) (fun _ tl r => tl = [] ∧ r = .bool (lessV n1 nt1 b1 c1 n2 nt2 b2 c2)) := by
  unfold Ct
  k_fill
  intro dp un gd cs' cs a ccd cl outer A₀ base h₀ L m news s Q E B F X N T hk hP hd hu hret
  obtain ⟨hW1, hW2⟩ := hP
  refine Ws.elim hW1 ?_
  intro x dx tp ct vs raw t1 t2 t3 t4 t5 t6 t7 t8 t9 k1 k2 ev_x hobj hdict hnorm hcount hints hlen hb0 hb1
  subst ev_x
  refine Ws.elim hW2 ?_
  intro y dy tq cu us raw' u1 u2 u3 u4 u5 u6 u7 u8 u9 j1 j2 ev_y hobj' hdict' hnorm' hcount' hints' hlen' hb0' hb1'
  subst ev_y
  refine wpAny_call ?_
  k_dflt ktr_enter
  rename Fr _ _ _ (fun y => List.lookup y _) => lF
  with_unfolding_all replace lF := fr_of_lookup (l := [(Str.ofString "other", .ref y), (Str.ofString "self", .ref x)]) lF
  (repeat' (first | (k_unfold; (try dsimp only)) | (k_end; wrow_close) | ((with_reducible show wpAny _ _ (execs (_ :: _) _) _ _ (Shared.mk _ _ _ (_ + 1) _)); (with_reducible refine toks_cut ?_); intro _) | ((first | ((with_reducible show wpAny _ _ (call (Value.ref _) _) _ _ _); (first | ((k_here; (with_reducible show wpAny _ _ (call (Value.ref 45) _) _ _ _); k_dflt (refine' ct_useI (indent_ct _ _ _ _ _ _ _ _ _ _ _ ?hqh1 ?hqh2) ?kB ?kF ?kX ?kN ?kT ?kk ?kP ?kd ?ku ?_; (case hqh1 | hqh2 => (first | lia | omega)); (((case kB | kF | kX | kN | kT => k_asm); (case kk => first | exact rfl | assumption); (case kP => (first | exact trivial | assumption | exact Ws.mono (by assumption) (by (first | exact fun _ h => h | (intro p hp; k_ownIn) | (intro p hp; exact List.mem_append.mpr (.inl hp)) | (intro p hp; exact List.mem_cons_of_mem _ (List.mem_append.mpr (.inl hp))) | (intro p hp; simp only [List.mem_append, List.mem_cons] at *; simp [hp]))))); (case kd | ku => (((try dsimp only [ktrTop, Around.deeper, Around.in1] at *); (first | lia | omega)))); k_whole; intro mq_tp mq_hp mq_tkp mq_Fp mq_Np; (try dsimp only); (try k_sweep); (try k_fold)))))) | ((k_here; (with_reducible show wpAny _ _ (call (Value.ref 38) _) _ _ _); k_dflt (refine' ct_useI (longest_ct _ _ _ _ _ _ _ _ _) ?kB ?kF ?kX ?kN ?kT ?kk ?kP ?kd ?ku ?_; (((case kB | kF | kX | kN | kT => k_asm); (case kk => first | exact rfl | assumption); (case kP => (first | exact trivial | assumption | exact Ws.mono (by assumption) (by (first | exact fun _ h => h | (intro p hp; k_ownIn) | (intro p hp; exact List.mem_append.mpr (.inl hp)) | (intro p hp; exact List.mem_cons_of_mem _ (List.mem_append.mpr (.inl hp))) | (intro p hp; simp only [List.mem_append, List.mem_cons] at *; simp [hp]))))); (case kd | ku => (((try dsimp only [ktrTop, Around.deeper, Around.in1] at *); (first | lia | omega)))); k_whole; intro mq_tp mq_hp mq_tkp mq_Fp mq_Np; (try dsimp only); (try k_sweep); (try k_fold)))))))) | ((with_reducible show wpAny _ _ (subscriptTail _ _ (Value.ref _) _) _ _ _); (first | ((k_here; (with_reducible show wpAny _ _ (subscriptTail _ _ (Value.ref _) (Value.int _ _)) _ _ _); k_dflt (refine' item_listM ?hqk1 ?hqk2 ?hqk3 ?hqk4 ?hqk5 ?hqk6 ?_; (case hqk1 => k_asm); (case hqk2 => k_mem); (case hqk3 => assumption); (case hqk4 | hqk5 | hqk6 => (first | lia | omega))); k_whole; intro _)) | ((k_here; (with_reducible show wpAny _ _ (subscriptTail _ _ (Value.ref _) (Value.int _ _)) _ _ _); k_dflt (refine' item_tupM ?hqk1 ?hqk2 ?hqk3 ?hqk4 ?hqk5 ?hqk6 ?_; (case hqk1 => k_asm); (case hqk2 => k_mem); (case hqk3 => assumption); (case hqk4 | hqk5 | hqk6 => (first | lia | omega))); k_whole; intro _)))) | ((with_reducible show wpAny _ _ (call (Value.builtin _) _) _ _ _); (first | ((k_here; (with_reducible show wpAny _ _ (call (Value.builtin "len") [Value.ref _]) _ _ _); k_dflt (refine' len_tupM ?hqk1 ?hqk2 ?hqk3 ?hqk4 ?_; (case hqk1 => k_asm); (case hqk2 => k_mem); (case hqk3 => exact IntsAre.length (by assumption)); (case hqk4 => (first | lia | omega))); k_whole)) | ((k_here; (with_reducible show wpAny _ _ (call (Value.builtin "len") [Value.ref _]) _ _ _); k_dflt (refine' len_listM ?hqk1 ?hqk2 ?hqk3 ?hqk4 ?_; (case hqk1 => k_asm); (case hqk2 => k_mem); (case hqk3 => exact IntsAre.length (by assumption)); (case hqk4 => (first | lia | omega))); k_whole)))))) | ((fail_if_success with_reducible (first | show wpAny _ _ (exec (Stmt.For _ _ _ _ _) _) _ _ _ | show wpAny _ _ (pyIter _) _ _ _)); first | walk1 | (dsimp only; walk1)) | (leave1; try dsimp only) | fail))
  · refine hret _ [] _ _ (by k_asm) (by (first | k_asm | exact kst_newsOf (by assumption) (by (first | exact fun _ h => h | (intro p hp; k_ownIn) | (intro p hp; exact List.mem_append.mpr (.inl hp)) | (intro p hp; exact List.mem_cons_of_mem _ (List.mem_append.mpr (.inl hp))) | (intro p hp; simp only [List.mem_append, List.mem_cons] at *; simp [hp]))))) (fun _ _ _ h => nomatch h) ⟨rfl, ?_⟩
    unfold lessV
    rw [if_pos (by simp_all)]
  · refine hret _ [] _ _ (by k_asm) (by (first | k_asm | exact kst_newsOf (by assumption) (by (first | exact fun _ h => h | (intro p hp; k_ownIn) | (intro p hp; exact List.mem_append.mpr (.inl hp)) | (intro p hp; exact List.mem_cons_of_mem _ (List.mem_append.mpr (.inl hp))) | (intro p hp; simp only [List.mem_append, List.mem_cons] at *; simp [hp]))))) (fun _ _ _ h => nomatch h) ⟨rfl, ?_⟩
    unfold lessV
    rw [if_neg (by simp_all), if_pos (by simp_all; (first | lia | omega))]
  all_goals (
    rename Fr _ _ _ _ => lF
    with_unfolding_all refine' For_invVF lF (by exact rfl) (by exact rfl) ?_
    (repeat' (first | (k_unfold; (try dsimp only)) | (k_end; wrow_close) | ((with_reducible show wpAny _ _ (execs (_ :: _) _) _ _ (Shared.mk _ _ _ (_ + 1) _)); (with_reducible refine toks_cut ?_); intro _) | ((first | ((with_reducible show wpAny _ _ (call (Value.ref _) _) _ _ _); (first | ((k_here; (with_reducible show wpAny _ _ (call (Value.ref 45) _) _ _ _); k_dflt (refine' ct_useI (indent_ct _ _ _ _ _ _ _ _ _ _ _ ?hqh1 ?hqh2) ?kB ?kF ?kX ?kN ?kT ?kk ?kP ?kd ?ku ?_; (case hqh1 | hqh2 => (first | lia | omega)); (((case kB | kF | kX | kN | kT => k_asm); (case kk => first | exact rfl | assumption); (case kP => (first | exact trivial | assumption | exact Ws.mono (by assumption) (by (first | exact fun _ h => h | (intro p hp; k_ownIn) | (intro p hp; exact List.mem_append.mpr (.inl hp)) | (intro p hp; exact List.mem_cons_of_mem _ (List.mem_append.mpr (.inl hp))) | (intro p hp; simp only [List.mem_append, List.mem_cons] at *; simp [hp]))))); (case kd | ku => (((try dsimp only [ktrTop, Around.deeper, Around.in1] at *); (first | lia | omega)))); k_whole; intro mq_tp mq_hp mq_tkp mq_Fp mq_Np; (try dsimp only); (try k_sweep); (try k_fold)))))) | ((k_here; (with_reducible show wpAny _ _ (call (Value.ref 38) _) _ _ _); k_dflt (refine' ct_useI (longest_ct _ _ _ _ _ _ _ _ _) ?kB ?kF ?kX ?kN ?kT ?kk ?kP ?kd ?ku ?_; (((case kB | kF | kX | kN | kT => k_asm); (case kk => first | exact rfl | assumption); (case kP => (first | exact trivial | assumption | exact Ws.mono (by assumption) (by (first | exact fun _ h => h | (intro p hp; k_ownIn) | (intro p hp; exact List.mem_append.mpr (.inl hp)) | (intro p hp; exact List.mem_cons_of_mem _ (List.mem_append.mpr (.inl hp))) | (intro p hp; simp only [List.mem_append, List.mem_cons] at *; simp [hp]))))); (case kd | ku => (((try dsimp only [ktrTop, Around.deeper, Around.in1] at *); (first | lia | omega)))); k_whole; intro mq_tp mq_hp mq_tkp mq_Fp mq_Np; (try dsimp only); (try k_sweep); (try k_fold)))))))) | ((with_reducible show wpAny _ _ (subscriptTail _ _ (Value.ref _) _) _ _ _); (first | ((k_here; (with_reducible show wpAny _ _ (subscriptTail _ _ (Value.ref _) (Value.int _ _)) _ _ _); k_dflt (refine' item_listM ?hqk1 ?hqk2 ?hqk3 ?hqk4 ?hqk5 ?hqk6 ?_; (case hqk1 => k_asm); (case hqk2 => k_mem); (case hqk3 => assumption); (case hqk4 | hqk5 | hqk6 => (first | lia | omega))); k_whole; intro _)) | ((k_here; (with_reducible show wpAny _ _ (subscriptTail _ _ (Value.ref _) (Value.int _ _)) _ _ _); k_dflt (refine' item_tupM ?hqk1 ?hqk2 ?hqk3 ?hqk4 ?hqk5 ?hqk6 ?_; (case hqk1 => k_asm); (case hqk2 => k_mem); (case hqk3 => assumption); (case hqk4 | hqk5 | hqk6 => (first | lia | omega))); k_whole; intro _)))) | ((with_reducible show wpAny _ _ (call (Value.builtin _) _) _ _ _); (first | ((k_here; (with_reducible show wpAny _ _ (call (Value.builtin "len") [Value.ref _]) _ _ _); k_dflt (refine' len_tupM ?hqk1 ?hqk2 ?hqk3 ?hqk4 ?_; (case hqk1 => k_asm); (case hqk2 => k_mem); (case hqk3 => exact IntsAre.length (by assumption)); (case hqk4 => (first | lia | omega))); k_whole)) | ((k_here; (with_reducible show wpAny _ _ (call (Value.builtin "len") [Value.ref _]) _ _ _); k_dflt (refine' len_listM ?hqk1 ?hqk2 ?hqk3 ?hqk4 ?_; (case hqk1 => k_asm); (case hqk2 => k_mem); (case hqk3 => exact IntsAre.length (by assumption)); (case hqk4 => (first | lia | omega))); k_whole)))))) | ((fail_if_success with_reducible (first | show wpAny _ _ (exec (Stmt.For _ _ _ _ _) _) _ _ _ | show wpAny _ _ (pyIter _) _ _ _)); first | walk1 | (dsimp only; walk1)) | (leave1; try dsimp only) | fail))
    rename Fr _ _ _ _ => lF
    rename News _ _ _ _ => lN
    rename IsRange _ _ _ _ _ _ _ _ => hR
    have hmx : ∀ p q : Int, (if q > p then q else p) = max p q := by intro p q; split <;> (first | lia | omega)
    rw [hmx] at hR
    have hnot : ¬ n1 ≥ n2 := by simp_all
    have hns : ¬ (c1.length ≤ 1 ∧ c2.length ≤ 1) := by simp_all <;> (first | lia | omega)
    with_unfolding_all refine lp_range (σ := Unit) (fun _ => news) (fun _ => []) [] (fun i _ => ∀ j : Nat, j < i → lvl nt1 b1 c1 (2 + (j : Int)) < lvl nt2 b2 c2 (2 + (j : Int))) () (by exact rfl) hR (small_of (by (first | lia | omega)) (by (first | lia | omega)) (by (first | lia | omega)) (by (first | lia | omega))) (rangeSize_nat _ _) lF lN (List.forall_mem_nil _) (fun j hj => absurd hj (Nat.not_lt_zero j)) ?_ ?_
    · intro c i t' u h' tk' own hi hoff hP' F' N'
      try k_fold
      (repeat' (first | (k_unfold; (try dsimp only)) | (k_end; wrow_close) | ((with_reducible show wpAny _ _ (execs (_ :: _) _) _ _ (Shared.mk _ _ _ (_ + 1) _)); (with_reducible refine toks_cut ?_); intro _) | ((first | ((with_reducible show wpAny _ _ (call (Value.ref _) _) _ _ _); (first | ((k_here; (with_reducible show wpAny _ _ (call (Value.ref 45) _) _ _ _); k_dflt (refine' ct_useI (indent_ct _ _ _ _ _ _ _ _ _ _ _ ?hqh1 ?hqh2) ?kB ?kF ?kX ?kN ?kT ?kk ?kP ?kd ?ku ?_; (case hqh1 | hqh2 => (first | lia | omega)); (((case kB | kF | kX | kN | kT => k_asm); (case kk => first | exact rfl | assumption); (case kP => (first | exact trivial | assumption | exact Ws.mono (by assumption) (by (first | exact fun _ h => h | (intro p hp; k_ownIn) | (intro p hp; exact List.mem_append.mpr (.inl hp)) | (intro p hp; exact List.mem_cons_of_mem _ (List.mem_append.mpr (.inl hp))) | (intro p hp; simp only [List.mem_append, List.mem_cons] at *; simp [hp]))))); (case kd | ku => (((try dsimp only [ktrTop, Around.deeper, Around.in1] at *); (first | lia | omega)))); k_whole; intro mq_tp mq_hp mq_tkp mq_Fp mq_Np; (try dsimp only); (try k_sweep); (try k_fold)))))) | ((k_here; (with_reducible show wpAny _ _ (call (Value.ref 38) _) _ _ _); k_dflt (refine' ct_useI (longest_ct _ _ _ _ _ _ _ _ _) ?kB ?kF ?kX ?kN ?kT ?kk ?kP ?kd ?ku ?_; (((case kB | kF | kX | kN | kT => k_asm); (case kk => first | exact rfl | assumption); (case kP => (first | exact trivial | assumption | exact Ws.mono (by assumption) (by (first | exact fun _ h => h | (intro p hp; k_ownIn) | (intro p hp; exact List.mem_append.mpr (.inl hp)) | (intro p hp; exact List.mem_cons_of_mem _ (List.mem_append.mpr (.inl hp))) | (intro p hp; simp only [List.mem_append, List.mem_cons] at *; simp [hp]))))); (case kd | ku => (((try dsimp only [ktrTop, Around.deeper, Around.in1] at *); (first | lia | omega)))); k_whole; intro mq_tp mq_hp mq_tkp mq_Fp mq_Np; (try dsimp only); (try k_sweep); (try k_fold)))))))) | ((with_reducible show wpAny _ _ (subscriptTail _ _ (Value.ref _) _) _ _ _); (first | ((k_here; (with_reducible show wpAny _ _ (subscriptTail _ _ (Value.ref _) (Value.int _ _)) _ _ _); k_dflt (refine' item_listM ?hqk1 ?hqk2 ?hqk3 ?hqk4 ?hqk5 ?hqk6 ?_; (case hqk1 => k_asm); (case hqk2 => k_mem); (case hqk3 => assumption); (case hqk4 | hqk5 | hqk6 => (first | lia | omega))); k_whole; intro _)) | ((k_here; (with_reducible show wpAny _ _ (subscriptTail _ _ (Value.ref _) (Value.int _ _)) _ _ _); k_dflt (refine' item_tupM ?hqk1 ?hqk2 ?hqk3 ?hqk4 ?hqk5 ?hqk6 ?_; (case hqk1 => k_asm); (case hqk2 => k_mem); (case hqk3 => assumption); (case hqk4 | hqk5 | hqk6 => (first | lia | omega))); k_whole; intro _)))) | ((with_reducible show wpAny _ _ (call (Value.builtin _) _) _ _ _); (first | ((k_here; (with_reducible show wpAny _ _ (call (Value.builtin "len") [Value.ref _]) _ _ _); k_dflt (refine' len_tupM ?hqk1 ?hqk2 ?hqk3 ?hqk4 ?_; (case hqk1 => k_asm); (case hqk2 => k_mem); (case hqk3 => exact IntsAre.length (by assumption)); (case hqk4 => (first | lia | omega))); k_whole)) | ((k_here; (with_reducible show wpAny _ _ (call (Value.builtin "len") [Value.ref _]) _ _ _); k_dflt (refine' len_listM ?hqk1 ?hqk2 ?hqk3 ?hqk4 ?_; (case hqk1 => k_asm); (case hqk2 => k_mem); (case hqk3 => exact IntsAre.length (by assumption)); (case hqk4 => (first | lia | omega))); k_whole)))))) | ((fail_if_success with_reducible (first | show wpAny _ _ (exec (Stmt.For _ _ _ _ _) _) _ _ _ | show wpAny _ _ (pyIter _) _ _ _)); first | walk1 | (dsimp only; walk1)) | (leave1; try dsimp only) | fail))
      · have hge : lvl nt1 b1 c1 (2 + (i : Int)) ≥ lvl nt2 b2 c2 (2 + (i : Int)) := by first | assumption | (first | lia | omega)
        refine hret _ [] _ _ (by k_asm) (by (first | k_asm | exact kst_newsOf (by assumption) (by (first | exact fun _ h => h | (intro p hp; k_ownIn) | (intro p hp; exact List.mem_append.mpr (.inl hp)) | (intro p hp; exact List.mem_cons_of_mem _ (List.mem_append.mpr (.inl hp))) | (intro p hp; simp only [List.mem_append, List.mem_cons] at *; simp [hp]))))) (fun _ _ _ h => nomatch h) ⟨rfl, ?_⟩
        unfold lessV
        rw [if_neg hnot, if_neg hns, decide_eq_false (fun hall => absurd (hall i hi) (by (first | lia | omega)))]
      · have hge : lvl nt1 b1 c1 (2 + (i : Int)) < lvl nt2 b2 c2 (2 + (i : Int)) := by first | assumption | (first | lia | omega)
        refine lp_end () (by k_asm) (by k_asm) (fun p hp => List.mem_append.mpr (.inl hp)) (fun p hp => List.mem_append.mpr (.inr hp)) hoff (List.forall_mem_nil _) (by ((intro mq_z mq_h1 mq_h2 mq_h3; (try simp only [List.forall_mem_cons] at mq_h2); first | (simp [kstB, mq_h1, mq_h2, mq_h3]; done) | (simp [kstB, mq_h1, mq_h2]; done) | (simp [kstB, mq_h1]; done) | (simp_all [kstB]; done)))) ?_
        intro j hj
        rcases Nat.lt_succ_iff_lt_or_eq.mp hj with h | h
        · exact hP' j h
        · rw [h]; exact hge
    · intro c u h' tk' hP' F' N'
      try k_fold
      (repeat' (first | (k_unfold; (try dsimp only)) | (k_end; wrow_close) | ((with_reducible show wpAny _ _ (execs (_ :: _) _) _ _ (Shared.mk _ _ _ (_ + 1) _)); (with_reducible refine toks_cut ?_); intro _) | ((first | ((with_reducible show wpAny _ _ (call (Value.ref _) _) _ _ _); (first | ((k_here; (with_reducible show wpAny _ _ (call (Value.ref 45) _) _ _ _); k_dflt (refine' ct_useI (indent_ct _ _ _ _ _ _ _ _ _ _ _ ?hqh1 ?hqh2) ?kB ?kF ?kX ?kN ?kT ?kk ?kP ?kd ?ku ?_; (case hqh1 | hqh2 => (first | lia | omega)); (((case kB | kF | kX | kN | kT => k_asm); (case kk => first | exact rfl | assumption); (case kP => (first | exact trivial | assumption | exact Ws.mono (by assumption) (by (first | exact fun _ h => h | (intro p hp; k_ownIn) | (intro p hp; exact List.mem_append.mpr (.inl hp)) | (intro p hp; exact List.mem_cons_of_mem _ (List.mem_append.mpr (.inl hp))) | (intro p hp; simp only [List.mem_append, List.mem_cons] at *; simp [hp]))))); (case kd | ku => (((try dsimp only [ktrTop, Around.deeper, Around.in1] at *); (first | lia | omega)))); k_whole; intro mq_tp mq_hp mq_tkp mq_Fp mq_Np; (try dsimp only); (try k_sweep); (try k_fold)))))) | ((k_here; (with_reducible show wpAny _ _ (call (Value.ref 38) _) _ _ _); k_dflt (refine' ct_useI (longest_ct _ _ _ _ _ _ _ _ _) ?kB ?kF ?kX ?kN ?kT ?kk ?kP ?kd ?ku ?_; (((case kB | kF | kX | kN | kT => k_asm); (case kk => first | exact rfl | assumption); (case kP => (first | exact trivial | assumption | exact Ws.mono (by assumption) (by (first | exact fun _ h => h | (intro p hp; k_ownIn) | (intro p hp; exact List.mem_append.mpr (.inl hp)) | (intro p hp; exact List.mem_cons_of_mem _ (List.mem_append.mpr (.inl hp))) | (intro p hp; simp only [List.mem_append, List.mem_cons] at *; simp [hp]))))); (case kd | ku => (((try dsimp only [ktrTop, Around.deeper, Around.in1] at *); (first | lia | omega)))); k_whole; intro mq_tp mq_hp mq_tkp mq_Fp mq_Np; (try dsimp only); (try k_sweep); (try k_fold)))))))) | ((with_reducible show wpAny _ _ (subscriptTail _ _ (Value.ref _) _) _ _ _); (first | ((k_here; (with_reducible show wpAny _ _ (subscriptTail _ _ (Value.ref _) (Value.int _ _)) _ _ _); k_dflt (refine' item_listM ?hqk1 ?hqk2 ?hqk3 ?hqk4 ?hqk5 ?hqk6 ?_; (case hqk1 => k_asm); (case hqk2 => k_mem); (case hqk3 => assumption); (case hqk4 | hqk5 | hqk6 => (first | lia | omega))); k_whole; intro _)) | ((k_here; (with_reducible show wpAny _ _ (subscriptTail _ _ (Value.ref _) (Value.int _ _)) _ _ _); k_dflt (refine' item_tupM ?hqk1 ?hqk2 ?hqk3 ?hqk4 ?hqk5 ?hqk6 ?_; (case hqk1 => k_asm); (case hqk2 => k_mem); (case hqk3 => assumption); (case hqk4 | hqk5 | hqk6 => (first | lia | omega))); k_whole; intro _)))) | ((with_reducible show wpAny _ _ (call (Value.builtin _) _) _ _ _); (first | ((k_here; (with_reducible show wpAny _ _ (call (Value.builtin "len") [Value.ref _]) _ _ _); k_dflt (refine' len_tupM ?hqk1 ?hqk2 ?hqk3 ?hqk4 ?_; (case hqk1 => k_asm); (case hqk2 => k_mem); (case hqk3 => exact IntsAre.length (by assumption)); (case hqk4 => (first | lia | omega))); k_whole)) | ((k_here; (with_reducible show wpAny _ _ (call (Value.builtin "len") [Value.ref _]) _ _ _); k_dflt (refine' len_listM ?hqk1 ?hqk2 ?hqk3 ?hqk4 ?_; (case hqk1 => k_asm); (case hqk2 => k_mem); (case hqk3 => exact IntsAre.length (by assumption)); (case hqk4 => (first | lia | omega))); k_whole)))))) | ((fail_if_success with_reducible (first | show wpAny _ _ (exec (Stmt.For _ _ _ _ _) _) _ _ _ | show wpAny _ _ (pyIter _) _ _ _)); first | walk1 | (dsimp only; walk1)) | (leave1; try dsimp only) | fail))
      refine hret _ [] _ _ (by k_asm) (by (first | k_asm | exact kst_newsOf (by assumption) (by (first | exact fun _ h => h | (intro p hp; k_ownIn) | (intro p hp; exact List.mem_append.mpr (.inl hp)) | (intro p hp; exact List.mem_cons_of_mem _ (List.mem_append.mpr (.inl hp))) | (intro p hp; simp only [List.mem_append, List.mem_cons] at *; simp [hp]))))) (fun _ _ _ h => nomatch h) ⟨rfl, ?_⟩
      unfold lessV
      rw [if_neg hnot, if_neg hns, decide_eq_true hP'])
local macro_rules | `(tactic| k_all) => `(tactic| assumption)
local macro_rules | `(tactic| k_mem) => `(tactic| first | with_reducible assumption | exact List.mem_cons_self | (refine' List.mem_cons_of_mem _ ?_; k_mem) | (refine' List.mem_append.mpr (Or.inl ?_); k_mem) | (refine' List.mem_append.mpr (Or.inr ?_); k_mem))
section
open PyProof.V PySem.Spec PySem.SeqAt
variable {prog : Program} {w : World} {A : Around} {E : Value → Shared → Prop} {s : Shared} {h₀ : Heap} {L : Addr}
theorem reads_norm {h : Heap} {news : Led} {tp ct : Addr} {b : Int} {t9 : Tok} {k1 k2 : Nat} {vs : List Value} {cn : List Int} (N : News h₀ L h news) (h1 : (tp, tupOb #[.ref ct, .int b t9] k1) ∈ news) (h2 : (ct, tupOb vs.toArray k2) ∈ news) (hi : IntsAre vs cn) :
    ∃ as, Reads h (.ref tp) (.tuple [.tuple (cn.map PyData.int), .int b]) as := by
  have r1 : Reads h (.ref ct) (.tuple (cn.map PyData.int)) [] := Reads.tuple (N _ h2).1 rfl rfl (by simpa using readsAll_of_ints hi)
  exact ⟨_, Reads.tuple (N _ h1).1 rfl rfl (ReadsAll.cons r1 (ReadsAll.cons (Reads.int b t9) ReadsAll.nil))⟩
theorem shaped_norm (cn : List Int) (b : Int) : shaped (.tuple [.tuple (cn.map PyData.int), .int b]) = true := by
  have h1 := PySem.W.depthAll_ints cn
  have h2 : PyData.depth (.tuple [.tuple (cn.map PyData.int), .int b]) ≤ 64 := by simp only [PyData.depth, PyData.depthAll]; (first | lia | omega)
  show (PyData.canLay0 _ && decide (PyData.depth _ ≤ 64)) = true
  rw [Bool.and_eq_true]
  exact ⟨by simp [PyData.canLay0, PyData.canLayAll0, canLayAll0_ints cn], decide_eq_true h2⟩
theorem eq_normM {news : Led} {tp ct tq cu : Addr} {b b' : Int} {t9 u9 : Tok} {k1 k2 j1 j2 : Nat} {vs us : List Value} {cn cn' : List Int} {Q : Value → Shared → Prop} (N : News h₀ L s.heap news) (h1 : (tp, tupOb #[.ref ct, .int b t9] k1) ∈ news) (h2 : (ct, tupOb vs.toArray k2) ∈ news) (hi : IntsAre vs cn)
    (h1' : (tq, tupOb #[.ref cu, .int b' u9] j1) ∈ news) (h2' : (cu, tupOb us.toArray j2) ∈ news) (hi' : IntsAre us cn') (hu : A.units + 64 < PySem.cLine)
    (h : Q (.bool (decide (cn = cn') && decide (b = b'))) s) : wpAny (model prog w) A (compareOp .Eq (.ref tp) (.ref tq)) Q E s := by
  obtain ⟨as, ra⟩ := reads_norm N h1 h2 hi
  obtain ⟨bs, rb⟩ := reads_norm N h1' h2' hi'
  refine eq_dataH_same ra rb (shaped_norm cn b) (shaped_norm cn' b') hu ?_ ?_
  · simp [noMix, noMixAll, noMix_ints]
  · have e : PySem.Spec.same (.tuple [.tuple (cn.map PyData.int), .int b]) (.tuple [.tuple (cn'.map PyData.int), .int b']) = (decide (cn = cn') && decide (b = b')) := by
      simp only [PySem.Spec.same, PySem.Spec.sameAll, same_ints, Bool.and_true]
      rfl
    rw [e]
    exact h
end
theorem equal_ct (w : World) (mean : ExcName → Option Value) (mg mb : Str → Option Value) (v1 v2 : Value) (n1 nt1 b1 : Int) (c1 : List Int) (n2 nt2 b2 : Int) (c2 : List Int) :
   Ct w mean mg mb 52 1 [v1, v2] (fun news => Ws w news v1 n1 nt1 b1 c1 ∧ Ws w news v2 n2 nt2 b2 c2) (fun _ tl r => tl = [] ∧ r = .bool (decide (c1 = c2) && decide (b1 = b2))) := by
  unfold Ct
  k_fill
  intro dp un gd cs' cs a ccd cl outer A₀ base h₀ L m news s Q E B F X N T hk hP hd hu hret
  obtain ⟨hW1, hW2⟩ := hP
  refine Ws.elim hW1 ?_
  intro x dx tp ct vs raw t1 t2 t3 t4 t5 t6 t7 t8 t9 k1 k2 ev_x hobj hdict hnorm hcount hints hlen hb0 hb1
  subst ev_x
  refine Ws.elim hW2 ?_
  intro y dy tq cu us raw' u1 u2 u3 u4 u5 u6 u7 u8 u9 j1 j2 ev_y hobj' hdict' hnorm' hcount' hints' hlen' hb0' hb1'
  subst ev_y
  refine wpAny_call ?_
  k_dflt ktr_enter
  rename Fr _ _ _ (fun y => List.lookup y _) => lF
  with_unfolding_all replace lF := fr_of_lookup (l := [(Str.ofString "other", .ref y), (Str.ofString "self", .ref x)]) lF
  rename News _ _ _ _ => lN
  repeat' (first | (k_unfold; (try dsimp only)) | (with_unfolding_all refine eq_normM (by k_asm) hnorm hcount hints hnorm' hcount' hints' (by units_room) ?_) | walk1 | (dsimp only; walk1))
  exact hret _ [] _ _ (by k_asm) (by (first | k_asm | exact kst_newsOf (by assumption) (by (first | exact fun _ h => h | (intro p hp; k_ownIn) | (intro p hp; exact List.mem_append.mpr (.inl hp)) | (intro p hp; exact List.mem_cons_of_mem _ (List.mem_append.mpr (.inl hp))) | (intro p hp; simp only [List.mem_append, List.mem_cons] at *; simp [hp]))))) (fun _ _ _ h => nomatch h) ⟨rfl, rfl⟩
theorem pickA {news : Led} {la : Addr} (_ : ∀ p ∈ news, p.1 < la) : ∃ a : Addr, a = la := ⟨la, rfl⟩
theorem pickD {la D : Addr} {l : Led} (_ : la < D ∧ AllLt D l) : ∃ a : Addr, a = D := ⟨D, rfl⟩
theorem wit_mem {p : Addr × Obj} {la D : Addr} {o1 oD : Obj} {tl news own : Led} (h : p ∈ (la, o1) :: ((D, oD) :: tl ++ news)) : p ∈ (D, oD) :: (la, o1) :: (tl ++ news ++ own) := by
  simp only [List.mem_cons, List.mem_append, List.cons_append] at *
  rcases h with h | h | h | h <;> simp [h]
theorem wit_mem2 {p : Addr × Obj} {la D : Addr} {o1 oD : Obj} {tl news own : Led} (h : p ∈ own) : p ∈ (D, oD) :: (la, o1) :: (tl ++ news ++ own) := by
  simp [h]
theorem wit_mem3 {p : Addr × Obj} {la : Addr} {o1 : Obj} {tl news own : Led} (h : p ∈ (la, o1) :: (tl ++ news)) : p ∈ (la, o1) :: (tl ++ news ++ own) := by
  simp only [List.mem_cons, List.mem_append] at *
  rcases h with h | h | h <;> simp [h]
theorem wit_mem4 {p : Addr × Obj} {la : Addr} {o1 : Obj} {tl news own : Led} (h : p ∈ own) : p ∈ (la, o1) :: (tl ++ news ++ own) := by
  simp [h]
theorem wit_off {la D : Addr} {o1 o2 oD : Obj} {tl news own : Led} (h : OwnOff own (((la, o1) :: (tl ++ news)).map (·.1))) (hD : AllLt D (tl ++ news ++ own)) : OwnOff own (((la, o2) :: ((D, oD) :: tl ++ news)).map (·.1)) := by
  intro p hp b hb
  simp only [List.map_cons, List.cons_append, List.mem_cons] at hb
  rcases hb with rfl | rfl | hb
  · exact h p hp _ (by simp)
  · exact Nat.ne_of_lt (ktn_ltOf hD p (by simp [hp]))
  · exact h p hp b (by simp only [List.map_cons, List.mem_cons]; exact .inr hb)
/-- rows of three ints, each a tuple in the ledger -/
inductive Rows3 (news : Led) : List Value → List (Int × Int × Int) → Prop
  | nil : Rows3 news [] []
  | cons {a : Addr} {k : Nat} {x y z : Int} {t1 t2 t3 : Tok} {vs rs} : (a, tupOb #[.int x t1, .int y t2, .int z t3] k) ∈ news → Rows3 news vs rs → Rows3 news (.ref a :: vs) ((x, y, z) :: rs)
theorem Rows3.mono {news news' : Led} {vs : List Value} {rs : List (Int × Int × Int)} (h : Rows3 news vs rs) (hs : ∀ p ∈ news, p ∈ news') : Rows3 news' vs rs := by
  induction h with
  | nil => exact .nil
  | cons hm _ ih => exact .cons (hs _ hm) ih
theorem Rows3.snoc {news : Led} {vs : List Value} {rs : List (Int × Int × Int)} {a : Addr} {k : Nat} {x y z : Int} {t1 t2 t3 : Tok} (h : Rows3 news vs rs) (hm : (a, tupOb #[.int x t1, .int y t2, .int z t3] k) ∈ news) : Rows3 news (vs ++ [.ref a]) (rs ++ [(x, y, z)]) := by
  induction h with
  | nil => exact .cons hm .nil
  | cons hm' _ ih => exact .cons hm' ih
theorem Rows3.length {news : Led} {vs : List Value} {rs : List (Int × Int × Int)} (h : Rows3 news vs rs) : vs.length = rs.length := by
  induction h with
  | nil => rfl
  | cons _ _ ih => simp [ih]
def wit (cond : Int → Int → Bool) (f g : Int → Int) : Nat → List (Int × Int × Int)
  | 0 => []
  | k + 1 => wit cond f g k ++ if cond (f (1 + (k : Int))) (g (1 + (k : Int))) then [(1 + (k : Int), f (1 + (k : Int)), g (1 + (k : Int)))] else []
theorem wit_le (cond : Int → Int → Bool) (f g : Int → Int) : ∀ k, (wit cond f g k).length ≤ k
  | 0 => Nat.le_refl 0
  | k + 1 => by
    have := wit_le cond f g k
    unfold wit
    rw [List.length_append]
    split <;> simp <;> (first | lia | omega)
/-- what a witness list's loop keeps -/
structure WitSt where
  vs : List Value
  k : Nat
  tl : Led
def geB (x y : Int) : Bool := decide (x ≥ y)
def neB (x y : Int) : Bool := decide (x ≠ y)
theorem notless_ct (w : World) (mean : ExcName → Option Value) (mg mb : Str → Option Value) (v1 v2 : Value) (n1 nt1 b1 : Int) (c1 : List Int) (n2 nt2 b2 : Int) (c2 : List Int) :
   Ct w mean mg mb 73 2 [v1, v2] (fun news => Ws w news v1 n1 nt1 b1 c1 ∧ Ws w news v2 n2 nt2 b2 c2)
    (fun news tl r => ∃ la vs k, r = .ref la ∧ (la, listOf vs.toArray k) ∈ tl ∧ Rows3 tl vs (wit geB (lvl nt1 b1 c1) (lvl nt2 b2 c2) (max (max ((c1.length : Int) - 1) b1) (max ((c2.length : Int) - 1) b2) + 1).toNat)) := by
  unfold Ct
  k_fill
  intro dp un gd cs' cs a ccd cl outer A₀ base h₀ L m news s Q E B F X N T hk hP hd hu hret
  obtain ⟨hW1, hW2⟩ := hP
  refine Ws.elim hW1 ?_
  intro x dx tp ct vs raw t1 t2 t3 t4 t5 t6 t7 t8 t9 k1 k2 ev_x hobj hdict hnorm hcount hints hlen hb0 hb1
  subst ev_x
  refine Ws.elim hW2 ?_
  intro y dy tq cu us raw' u1 u2 u3 u4 u5 u6 u7 u8 u9 j1 j2 ev_y hobj' hdict' hnorm' hcount' hints' hlen' hb0' hb1'
  subst ev_y
  refine wpAny_call ?_
  k_dflt ktr_enter
  rename Fr _ _ _ (fun y => List.lookup y _) => lF
  with_unfolding_all replace lF := fr_of_lookup (l := [(Str.ofString "other", .ref y), (Str.ofString "self", .ref x)]) lF
  (repeat' (first | (k_unfold; (try dsimp only)) | (k_end; wrow_close) | ((with_reducible show wpAny _ _ (execs (_ :: _) _) _ _ (Shared.mk _ _ _ (_ + 1) _)); (with_reducible refine toks_cut ?_); intro _) | ((first | ((with_reducible show wpAny _ _ (call (Value.ref _) _) _ _ _); (first | ((k_here; (with_reducible show wpAny _ _ (call (Value.ref 45) _) _ _ _); k_dflt (refine' ct_useI (indent_ct _ _ _ _ _ _ _ _ _ _ _ ?hqh1 ?hqh2) ?kB ?kF ?kX ?kN ?kT ?kk ?kP ?kd ?ku ?_; (case hqh1 | hqh2 => (first | lia | omega)); (((case kB | kF | kX | kN | kT => k_asm); (case kk => first | exact rfl | assumption); (case kP => (first | exact trivial | assumption | exact Ws.mono (by assumption) (by (first | exact fun _ h => h | (intro p hp; k_ownIn) | (intro p hp; exact List.mem_append.mpr (.inl hp)) | (intro p hp; exact List.mem_cons_of_mem _ (List.mem_append.mpr (.inl hp))) | (intro p hp; simp only [List.mem_append, List.mem_cons] at *; simp [hp]))))); (case kd | ku => (((try dsimp only [ktrTop, Around.deeper, Around.in1] at *); (first | lia | omega)))); k_whole; intro mq_tp mq_hp mq_tkp mq_Fp mq_Np; (try dsimp only); (try k_sweep); (try k_fold)))))) | ((k_here; (with_reducible show wpAny _ _ (call (Value.ref 38) _) _ _ _); k_dflt (refine' ct_useI (longest_ct _ _ _ _ _ _ _ _ _) ?kB ?kF ?kX ?kN ?kT ?kk ?kP ?kd ?ku ?_; (((case kB | kF | kX | kN | kT => k_asm); (case kk => first | exact rfl | assumption); (case kP => (first | exact trivial | assumption | exact Ws.mono (by assumption) (by (first | exact fun _ h => h | (intro p hp; k_ownIn) | (intro p hp; exact List.mem_append.mpr (.inl hp)) | (intro p hp; exact List.mem_cons_of_mem _ (List.mem_append.mpr (.inl hp))) | (intro p hp; simp only [List.mem_append, List.mem_cons] at *; simp [hp]))))); (case kd | ku => (((try dsimp only [ktrTop, Around.deeper, Around.in1] at *); (first | lia | omega)))); k_whole; intro mq_tp mq_hp mq_tkp mq_Fp mq_Np; (try dsimp only); (try k_sweep); (try k_fold)))))))) | ((with_reducible show wpAny _ _ (subscriptTail _ _ (Value.ref _) _) _ _ _); (first | ((k_here; (with_reducible show wpAny _ _ (subscriptTail _ _ (Value.ref _) (Value.int _ _)) _ _ _); k_dflt (refine' item_listM ?hqk1 ?hqk2 ?hqk3 ?hqk4 ?hqk5 ?hqk6 ?_; (case hqk1 => k_asm); (case hqk2 => k_mem); (case hqk3 => assumption); (case hqk4 | hqk5 | hqk6 => (first | lia | omega))); k_whole; intro _)) | ((k_here; (with_reducible show wpAny _ _ (subscriptTail _ _ (Value.ref _) (Value.int _ _)) _ _ _); k_dflt (refine' item_tupM ?hqk1 ?hqk2 ?hqk3 ?hqk4 ?hqk5 ?hqk6 ?_; (case hqk1 => k_asm); (case hqk2 => k_mem); (case hqk3 => assumption); (case hqk4 | hqk5 | hqk6 => (first | lia | omega))); k_whole; intro _)))) | ((with_reducible show wpAny _ _ (call (Value.builtin _) _) _ _ _); (first | ((k_here; (with_reducible show wpAny _ _ (call (Value.builtin "len") [Value.ref _]) _ _ _); k_dflt (refine' len_tupM ?hqk1 ?hqk2 ?hqk3 ?hqk4 ?_; (case hqk1 => k_asm); (case hqk2 => k_mem); (case hqk3 => exact IntsAre.length (by assumption)); (case hqk4 => (first | lia | omega))); k_whole)) | ((k_here; (with_reducible show wpAny _ _ (call (Value.builtin "len") [Value.ref _]) _ _ _); k_dflt (refine' len_listM ?hqk1 ?hqk2 ?hqk3 ?hqk4 ?_; (case hqk1 => k_asm); (case hqk2 => k_mem); (case hqk3 => exact IntsAre.length (by assumption)); (case hqk4 => (first | lia | omega))); k_whole)))))) | ((fail_if_success with_reducible (first | show wpAny _ _ (exec (Stmt.For _ _ _ _ _) _) _ _ _ | show wpAny _ _ (pyIter _) _ _ _)); first | walk1 | (dsimp only; walk1)) | (leave1; try dsimp only) | fail))
  rename Fr _ _ _ _ => lF
  with_unfolding_all refine' For_invVF lF (by exact rfl) (by exact rfl) ?_
  (repeat' (first | (k_unfold; (try dsimp only)) | (k_end; wrow_close) | ((with_reducible show wpAny _ _ (execs (_ :: _) _) _ _ (Shared.mk _ _ _ (_ + 1) _)); (with_reducible refine toks_cut ?_); intro _) | ((first | ((with_reducible show wpAny _ _ (call (Value.ref _) _) _ _ _); (first | ((k_here; (with_reducible show wpAny _ _ (call (Value.ref 45) _) _ _ _); k_dflt (refine' ct_useI (indent_ct _ _ _ _ _ _ _ _ _ _ _ ?hqh1 ?hqh2) ?kB ?kF ?kX ?kN ?kT ?kk ?kP ?kd ?ku ?_; (case hqh1 | hqh2 => (first | lia | omega)); (((case kB | kF | kX | kN | kT => k_asm); (case kk => first | exact rfl | assumption); (case kP => (first | exact trivial | assumption | exact Ws.mono (by assumption) (by (first | exact fun _ h => h | (intro p hp; k_ownIn) | (intro p hp; exact List.mem_append.mpr (.inl hp)) | (intro p hp; exact List.mem_cons_of_mem _ (List.mem_append.mpr (.inl hp))) | (intro p hp; simp only [List.mem_append, List.mem_cons] at *; simp [hp]))))); (case kd | ku => (((try dsimp only [ktrTop, Around.deeper, Around.in1] at *); (first | lia | omega)))); k_whole; intro mq_tp mq_hp mq_tkp mq_Fp mq_Np; (try dsimp only); (try k_sweep); (try k_fold)))))) | ((k_here; (with_reducible show wpAny _ _ (call (Value.ref 38) _) _ _ _); k_dflt (refine' ct_useI (longest_ct _ _ _ _ _ _ _ _ _) ?kB ?kF ?kX ?kN ?kT ?kk ?kP ?kd ?ku ?_; (((case kB | kF | kX | kN | kT => k_asm); (case kk => first | exact rfl | assumption); (case kP => (first | exact trivial | assumption | exact Ws.mono (by assumption) (by (first | exact fun _ h => h | (intro p hp; k_ownIn) | (intro p hp; exact List.mem_append.mpr (.inl hp)) | (intro p hp; exact List.mem_cons_of_mem _ (List.mem_append.mpr (.inl hp))) | (intro p hp; simp only [List.mem_append, List.mem_cons] at *; simp [hp]))))); (case kd | ku => (((try dsimp only [ktrTop, Around.deeper, Around.in1] at *); (first | lia | omega)))); k_whole; intro mq_tp mq_hp mq_tkp mq_Fp mq_Np; (try dsimp only); (try k_sweep); (try k_fold)))))))) | ((with_reducible show wpAny _ _ (subscriptTail _ _ (Value.ref _) _) _ _ _); (first | ((k_here; (with_reducible show wpAny _ _ (subscriptTail _ _ (Value.ref _) (Value.int _ _)) _ _ _); k_dflt (refine' item_listM ?hqk1 ?hqk2 ?hqk3 ?hqk4 ?hqk5 ?hqk6 ?_; (case hqk1 => k_asm); (case hqk2 => k_mem); (case hqk3 => assumption); (case hqk4 | hqk5 | hqk6 => (first | lia | omega))); k_whole; intro _)) | ((k_here; (with_reducible show wpAny _ _ (subscriptTail _ _ (Value.ref _) (Value.int _ _)) _ _ _); k_dflt (refine' item_tupM ?hqk1 ?hqk2 ?hqk3 ?hqk4 ?hqk5 ?hqk6 ?_; (case hqk1 => k_asm); (case hqk2 => k_mem); (case hqk3 => assumption); (case hqk4 | hqk5 | hqk6 => (first | lia | omega))); k_whole; intro _)))) | ((with_reducible show wpAny _ _ (call (Value.builtin _) _) _ _ _); (first | ((k_here; (with_reducible show wpAny _ _ (call (Value.builtin "len") [Value.ref _]) _ _ _); k_dflt (refine' len_tupM ?hqk1 ?hqk2 ?hqk3 ?hqk4 ?_; (case hqk1 => k_asm); (case hqk2 => k_mem); (case hqk3 => exact IntsAre.length (by assumption)); (case hqk4 => (first | lia | omega))); k_whole)) | ((k_here; (with_reducible show wpAny _ _ (call (Value.builtin "len") [Value.ref _]) _ _ _); k_dflt (refine' len_listM ?hqk1 ?hqk2 ?hqk3 ?hqk4 ?_; (case hqk1 => k_asm); (case hqk2 => k_mem); (case hqk3 => exact IntsAre.length (by assumption)); (case hqk4 => (first | lia | omega))); k_whole)))))) | ((fail_if_success with_reducible (first | show wpAny _ _ (exec (Stmt.For _ _ _ _ _) _) _ _ _ | show wpAny _ _ (pyIter _) _ _ _)); first | walk1 | (dsimp only; walk1)) | (leave1; try dsimp only) | fail))
  rename Fr _ _ _ _ => lF
  rename News _ _ _ _ => lN
  rename IsRange _ _ _ _ _ _ _ _ => hR
  have hmx : ∀ p q : Int, (if q > p then q else p) = max p q := by intro p q; split <;> (first | lia | omega)
  rw [hmx] at hR
  rename (∀ p ∈ news, p.1 < _) => hl1
  obtain ⟨la, hla⟩ := pickA hl1
  subst hla
  with_unfolding_all refine lp_range (σ := WitSt) (fun c => (la, listOf c.vs.toArray c.k) :: (c.tl ++ news)) (fun _ => []) [] (fun i c => Rows3 c.tl c.vs (wit geB (lvl nt1 b1 c1) (lvl nt2 b2 c2) i) ∧ ∀ p ∈ c.tl, la < p.1) ⟨[], 0, []⟩ (by exact rfl) hR (small_of (by (first | lia | omega)) (by (first | lia | omega)) (by (first | lia | omega)) (by (first | lia | omega))) (rangeSize_nat _ _) lF lN (List.forall_mem_nil _) ⟨.nil, fun _ h => nomatch h⟩ ?_ ?_
  · intro c i t' u h' tk' own hi hoff hP' F' N'
    obtain ⟨hrw, hab⟩ := hP'
    have hne : ∀ p ∈ c.tl ++ news ++ own, p.1 ≠ la := by
      intro p hp
      rcases List.mem_append.mp hp with hp | hp
      · rcases List.mem_append.mp hp with hp | hp
        · exact Nat.ne_of_gt (hab p hp)
        · exact Nat.ne_of_lt (hl1 p hp)
      · exact hoff p hp la (by simp)
    have hlw := wit_le geB (lvl nt1 b1 c1) (lvl nt2 b2 c2) i
    have hlv := hrw.length
    simp only [List.cons_append] at N'
    have hW1' := hW1.mono (news' := (la, listOf c.vs.toArray c.k) :: (c.tl ++ news ++ own)) (fun p hp => .tail _ (List.mem_append.mpr (.inl (List.mem_append.mpr (.inr hp)))))
    have hW2' := hW2.mono (news' := (la, listOf c.vs.toArray c.k) :: (c.tl ++ news ++ own)) (fun p hp => .tail _ (List.mem_append.mpr (.inl (List.mem_append.mpr (.inr hp)))))
    try k_fold
    (repeat' (first | (k_unfold; (try dsimp only)) | (k_end; wrow_close) | ((with_reducible show wpAny _ _ (execs (_ :: _) _) _ _ (Shared.mk _ _ _ (_ + 1) _)); (with_reducible refine toks_cut ?_); intro _) | ((first | ((with_reducible show wpAny _ _ (call (Value.ref _) _) _ _ _); (first | ((k_here; (with_reducible show wpAny _ _ (call (Value.ref 45) _) _ _ _); k_dflt (refine' ct_useI (indent_ct _ _ _ _ _ _ _ _ _ _ _ ?hqh1 ?hqh2) ?kB ?kF ?kX ?kN ?kT ?kk ?kP ?kd ?ku ?_; (case hqh1 | hqh2 => (first | lia | omega)); (((case kB | kF | kX | kN | kT => k_asm); (case kk => first | exact rfl | assumption); (case kP => (first | exact trivial | assumption | exact Ws.mono (by assumption) (by (first | exact fun _ h => h | (intro p hp; k_ownIn) | (intro p hp; exact List.mem_append.mpr (.inl hp)) | (intro p hp; exact List.mem_cons_of_mem _ (List.mem_append.mpr (.inl hp))) | (intro p hp; simp only [List.mem_append, List.mem_cons] at *; simp [hp]))))); (case kd | ku => (((try dsimp only [ktrTop, Around.deeper, Around.in1] at *); (first | lia | omega)))); k_whole; intro mq_tp mq_hp mq_tkp mq_Fp mq_Np; (try dsimp only); (try k_sweep); (try k_fold)))))) | ((k_here; (with_reducible show wpAny _ _ (call (Value.ref 38) _) _ _ _); k_dflt (refine' ct_useI (longest_ct _ _ _ _ _ _ _ _ _) ?kB ?kF ?kX ?kN ?kT ?kk ?kP ?kd ?ku ?_; (((case kB | kF | kX | kN | kT => k_asm); (case kk => first | exact rfl | assumption); (case kP => (first | exact trivial | assumption | exact Ws.mono (by assumption) (by (first | exact fun _ h => h | (intro p hp; k_ownIn) | (intro p hp; exact List.mem_append.mpr (.inl hp)) | (intro p hp; exact List.mem_cons_of_mem _ (List.mem_append.mpr (.inl hp))) | (intro p hp; simp only [List.mem_append, List.mem_cons] at *; simp [hp]))))); (case kd | ku => (((try dsimp only [ktrTop, Around.deeper, Around.in1] at *); (first | lia | omega)))); k_whole; intro mq_tp mq_hp mq_tkp mq_Fp mq_Np; (try dsimp only); (try k_sweep); (try k_fold)))))))) | ((with_reducible show wpAny _ _ (subscriptTail _ _ (Value.ref _) _) _ _ _); (first | ((k_here; (with_reducible show wpAny _ _ (subscriptTail _ _ (Value.ref _) (Value.int _ _)) _ _ _); k_dflt (refine' item_listM ?hqk1 ?hqk2 ?hqk3 ?hqk4 ?hqk5 ?hqk6 ?_; (case hqk1 => k_asm); (case hqk2 => k_mem); (case hqk3 => assumption); (case hqk4 | hqk5 | hqk6 => (first | lia | omega))); k_whole; intro _)) | ((k_here; (with_reducible show wpAny _ _ (subscriptTail _ _ (Value.ref _) (Value.int _ _)) _ _ _); k_dflt (refine' item_tupM ?hqk1 ?hqk2 ?hqk3 ?hqk4 ?hqk5 ?hqk6 ?_; (case hqk1 => k_asm); (case hqk2 => k_mem); (case hqk3 => assumption); (case hqk4 | hqk5 | hqk6 => (first | lia | omega))); k_whole; intro _)))) | ((with_reducible show wpAny _ _ (call (Value.builtin _) _) _ _ _); (first | ((k_here; (with_reducible show wpAny _ _ (call (Value.builtin "len") [Value.ref _]) _ _ _); k_dflt (refine' len_tupM ?hqk1 ?hqk2 ?hqk3 ?hqk4 ?_; (case hqk1 => k_asm); (case hqk2 => k_mem); (case hqk3 => exact IntsAre.length (by assumption)); (case hqk4 => (first | lia | omega))); k_whole)) | ((k_here; (with_reducible show wpAny _ _ (call (Value.builtin "len") [Value.ref _]) _ _ _); k_dflt (refine' len_listM ?hqk1 ?hqk2 ?hqk3 ?hqk4 ?_; (case hqk1 => k_asm); (case hqk2 => k_mem); (case hqk3 => exact IntsAre.length (by assumption)); (case hqk4 => (first | lia | omega))); k_whole)))))) | ((fail_if_success with_reducible (first | show wpAny _ _ (exec (Stmt.For _ _ _ _ _) _) _ _ _ | show wpAny _ _ (pyIter _) _ _ _)); first | walk1 | (dsimp only; walk1)) | (leave1; try dsimp only) | fail))
    · have hge : geB (lvl nt1 b1 c1 (1 + (i : Int))) (lvl nt2 b2 c2 (1 + (i : Int))) = true := decide_eq_true (by first | assumption | (first | lia | omega))
      rename News _ _ _ _ => lN2
      rename (la < _ ∧ AllLt _ _) => hD
      obtain ⟨D, eD⟩ := pickD hD
      subst eD
      simp only [List.push_toArray] at lN2
      refine lp_end ⟨c.vs ++ [.ref D], c.k + 1, (D, tupOb #[.int _ _, .int _ _, .int _ _] _) :: c.tl⟩ (by k_asm) lN2 (fun p hp => wit_mem hp) (fun p hp => wit_mem2 hp) (wit_off hoff hD.2) (List.forall_mem_nil _) (by ((intro mq_z mq_h1 mq_h2 mq_h3; (try simp only [List.forall_mem_cons] at mq_h2); first | (simp [kstB, mq_h1, mq_h2, mq_h3]; done) | (simp [kstB, mq_h1, mq_h2]; done) | (simp [kstB, mq_h1]; done) | (simp_all [kstB]; done)))) ⟨?_, ?_⟩
      · unfold wit
        rw [if_pos hge]
        exact (hrw.mono (fun p hp => List.mem_cons_of_mem _ hp)).snoc List.mem_cons_self
      · intro p hp
        rcases List.mem_cons.mp hp with rfl | hp
        · exact hD.1
        · exact hab p hp
    · have hge : ¬ geB (lvl nt1 b1 c1 (1 + (i : Int))) (lvl nt2 b2 c2 (1 + (i : Int))) = true := fun e => absurd (of_decide_eq_true e) (by first | assumption | (first | lia | omega))
      refine lp_end c (by k_asm) (by k_asm) (fun p hp => wit_mem3 hp) (fun p hp => wit_mem4 hp) hoff (List.forall_mem_nil _) (by ((intro mq_z mq_h1 mq_h2 mq_h3; (try simp only [List.forall_mem_cons] at mq_h2); first | (simp [kstB, mq_h1, mq_h2, mq_h3]; done) | (simp [kstB, mq_h1, mq_h2]; done) | (simp [kstB, mq_h1]; done) | (simp_all [kstB]; done)))) ⟨?_, hab⟩
      unfold wit
      rw [if_neg hge, List.append_nil]
      exact hrw
  · intro c u h' tk' hP' F' N'
    try k_fold
    (repeat' (first | (k_unfold; (try dsimp only)) | (k_end; wrow_close) | ((with_reducible show wpAny _ _ (execs (_ :: _) _) _ _ (Shared.mk _ _ _ (_ + 1) _)); (with_reducible refine toks_cut ?_); intro _) | ((first | ((with_reducible show wpAny _ _ (call (Value.ref _) _) _ _ _); (first | ((k_here; (with_reducible show wpAny _ _ (call (Value.ref 45) _) _ _ _); k_dflt (refine' ct_useI (indent_ct _ _ _ _ _ _ _ _ _ _ _ ?hqh1 ?hqh2) ?kB ?kF ?kX ?kN ?kT ?kk ?kP ?kd ?ku ?_; (case hqh1 | hqh2 => (first | lia | omega)); (((case kB | kF | kX | kN | kT => k_asm); (case kk => first | exact rfl | assumption); (case kP => (first | exact trivial | assumption | exact Ws.mono (by assumption) (by (first | exact fun _ h => h | (intro p hp; k_ownIn) | (intro p hp; exact List.mem_append.mpr (.inl hp)) | (intro p hp; exact List.mem_cons_of_mem _ (List.mem_append.mpr (.inl hp))) | (intro p hp; simp only [List.mem_append, List.mem_cons] at *; simp [hp]))))); (case kd | ku => (((try dsimp only [ktrTop, Around.deeper, Around.in1] at *); (first | lia | omega)))); k_whole; intro mq_tp mq_hp mq_tkp mq_Fp mq_Np; (try dsimp only); (try k_sweep); (try k_fold)))))) | ((k_here; (with_reducible show wpAny _ _ (call (Value.ref 38) _) _ _ _); k_dflt (refine' ct_useI (longest_ct _ _ _ _ _ _ _ _ _) ?kB ?kF ?kX ?kN ?kT ?kk ?kP ?kd ?ku ?_; (((case kB | kF | kX | kN | kT => k_asm); (case kk => first | exact rfl | assumption); (case kP => (first | exact trivial | assumption | exact Ws.mono (by assumption) (by (first | exact fun _ h => h | (intro p hp; k_ownIn) | (intro p hp; exact List.mem_append.mpr (.inl hp)) | (intro p hp; exact List.mem_cons_of_mem _ (List.mem_append.mpr (.inl hp))) | (intro p hp; simp only [List.mem_append, List.mem_cons] at *; simp [hp]))))); (case kd | ku => (((try dsimp only [ktrTop, Around.deeper, Around.in1] at *); (first | lia | omega)))); k_whole; intro mq_tp mq_hp mq_tkp mq_Fp mq_Np; (try dsimp only); (try k_sweep); (try k_fold)))))))) | ((with_reducible show wpAny _ _ (subscriptTail _ _ (Value.ref _) _) _ _ _); (first | ((k_here; (with_reducible show wpAny _ _ (subscriptTail _ _ (Value.ref _) (Value.int _ _)) _ _ _); k_dflt (refine' item_listM ?hqk1 ?hqk2 ?hqk3 ?hqk4 ?hqk5 ?hqk6 ?_; (case hqk1 => k_asm); (case hqk2 => k_mem); (case hqk3 => assumption); (case hqk4 | hqk5 | hqk6 => (first | lia | omega))); k_whole; intro _)) | ((k_here; (with_reducible show wpAny _ _ (subscriptTail _ _ (Value.ref _) (Value.int _ _)) _ _ _); k_dflt (refine' item_tupM ?hqk1 ?hqk2 ?hqk3 ?hqk4 ?hqk5 ?hqk6 ?_; (case hqk1 => k_asm); (case hqk2 => k_mem); (case hqk3 => assumption); (case hqk4 | hqk5 | hqk6 => (first | lia | omega))); k_whole; intro _)))) | ((with_reducible show wpAny _ _ (call (Value.builtin _) _) _ _ _); (first | ((k_here; (with_reducible show wpAny _ _ (call (Value.builtin "len") [Value.ref _]) _ _ _); k_dflt (refine' len_tupM ?hqk1 ?hqk2 ?hqk3 ?hqk4 ?_; (case hqk1 => k_asm); (case hqk2 => k_mem); (case hqk3 => exact IntsAre.length (by assumption)); (case hqk4 => (first | lia | omega))); k_whole)) | ((k_here; (with_reducible show wpAny _ _ (call (Value.builtin "len") [Value.ref _]) _ _ _); k_dflt (refine' len_listM ?hqk1 ?hqk2 ?hqk3 ?hqk4 ?_; (case hqk1 => k_asm); (case hqk2 => k_mem); (case hqk3 => exact IntsAre.length (by assumption)); (case hqk4 => (first | lia | omega))); k_whole)))))) | ((fail_if_success with_reducible (first | show wpAny _ _ (exec (Stmt.For _ _ _ _ _) _) _ _ _ | show wpAny _ _ (pyIter _) _ _ _)); first | walk1 | (dsimp only; walk1)) | (leave1; try dsimp only) | fail))
    obtain ⟨hrw, hab⟩ := hP'
    refine hret _ ((la, listOf c.vs.toArray c.k) :: c.tl) _ _ (by k_asm) (by k_asm) ?_ ⟨la, c.vs, c.k, rfl, List.mem_cons_self, ?_⟩
    · intro q hq p hp
      rcases List.mem_cons.mp hp with rfl | hp
      · exact Nat.ne_of_lt (hl1 q hq)
      · exact Nat.ne_of_lt (Nat.lt_trans (hl1 q hq) (hab p hp))
    · have e : (max (max ((c1.length : Int) - 1) b1) (max ((c2.length : Int) - 1) b2) + 1 + 1 - 1).toNat = (max (max ((c1.length : Int) - 1) b1) (max ((c2.length : Int) - 1) b2) + 1).toNat := by (first | lia | omega)
      rw [e] at hrw
      exact hrw.mono (fun p hp => List.mem_cons_of_mem _ hp)
theorem notequal_ct (w : World) (mean : ExcName → Option Value) (mg mb : Str → Option Value) (v1 v2 : Value) (n1 nt1 b1 : Int) (c1 : List Int) (n2 nt2 b2 : Int) (c2 : List Int) :
   Ct w mean mg mb 59 2 [v1, v2] (fun news => Ws w news v1 n1 nt1 b1 c1 ∧ Ws w news v2 n2 nt2 b2 c2)
    (fun news tl r => ∃ la vs k, r = .ref la ∧ (la, listOf vs.toArray k) ∈ tl ∧ Rows3 tl vs (wit neB (lvl nt1 b1 c1) (lvl nt2 b2 c2) (max (max ((c1.length : Int) - 1) b1) (max ((c2.length : Int) - 1) b2) + 1).toNat)) := by
  unfold Ct
  k_fill
  intro dp un gd cs' cs a ccd cl outer A₀ base h₀ L m news s Q E B F X N T hk hP hd hu hret
  obtain ⟨hW1, hW2⟩ := hP
  refine Ws.elim hW1 ?_
  intro x dx tp ct vs raw t1 t2 t3 t4 t5 t6 t7 t8 t9 k1 k2 ev_x hobj hdict hnorm hcount hints hlen hb0 hb1
  subst ev_x
  refine Ws.elim hW2 ?_
  intro y dy tq cu us raw' u1 u2 u3 u4 u5 u6 u7 u8 u9 j1 j2 ev_y hobj' hdict' hnorm' hcount' hints' hlen' hb0' hb1'
  subst ev_y
  refine wpAny_call ?_
  k_dflt ktr_enter
  rename Fr _ _ _ (fun y => List.lookup y _) => lF
  with_unfolding_all replace lF := fr_of_lookup (l := [(Str.ofString "other", .ref y), (Str.ofString "self", .ref x)]) lF
  (repeat' (first | (k_unfold; (try dsimp only)) | (k_end; wrow_close) | ((with_reducible show wpAny _ _ (execs (_ :: _) _) _ _ (Shared.mk _ _ _ (_ + 1) _)); (with_reducible refine toks_cut ?_); intro _) | ((first | ((with_reducible show wpAny _ _ (call (Value.ref _) _) _ _ _); (first | ((k_here; (with_reducible show wpAny _ _ (call (Value.ref 45) _) _ _ _); k_dflt (refine' ct_useI (indent_ct _ _ _ _ _ _ _ _ _ _ _ ?hqh1 ?hqh2) ?kB ?kF ?kX ?kN ?kT ?kk ?kP ?kd ?ku ?_; (case hqh1 | hqh2 => (first | lia | omega)); (((case kB | kF | kX | kN | kT => k_asm); (case kk => first | exact rfl | assumption); (case kP => (first | exact trivial | assumption | exact Ws.mono (by assumption) (by (first | exact fun _ h => h | (intro p hp; k_ownIn) | (intro p hp; exact List.mem_append.mpr (.inl hp)) | (intro p hp; exact List.mem_cons_of_mem _ (List.mem_append.mpr (.inl hp))) | (intro p hp; simp only [List.mem_append, List.mem_cons] at *; simp [hp]))))); (case kd | ku => (((try dsimp only [ktrTop, Around.deeper, Around.in1] at *); (first | lia | omega)))); k_whole; intro mq_tp mq_hp mq_tkp mq_Fp mq_Np; (try dsimp only); (try k_sweep); (try k_fold)))))) | ((k_here; (with_reducible show wpAny _ _ (call (Value.ref 38) _) _ _ _); k_dflt (refine' ct_useI (longest_ct _ _ _ _ _ _ _ _ _) ?kB ?kF ?kX ?kN ?kT ?kk ?kP ?kd ?ku ?_; (((case kB | kF | kX | kN | kT => k_asm); (case kk => first | exact rfl | assumption); (case kP => (first | exact trivial | assumption | exact Ws.mono (by assumption) (by (first | exact fun _ h => h | (intro p hp; k_ownIn) | (intro p hp; exact List.mem_append.mpr (.inl hp)) | (intro p hp; exact List.mem_cons_of_mem _ (List.mem_append.mpr (.inl hp))) | (intro p hp; simp only [List.mem_append, List.mem_cons] at *; simp [hp]))))); (case kd | ku => (((try dsimp only [ktrTop, Around.deeper, Around.in1] at *); (first | lia | omega)))); k_whole; intro mq_tp mq_hp mq_tkp mq_Fp mq_Np; (try dsimp only); (try k_sweep); (try k_fold)))))))) | ((with_reducible show wpAny _ _ (subscriptTail _ _ (Value.ref _) _) _ _ _); (first | ((k_here; (with_reducible show wpAny _ _ (subscriptTail _ _ (Value.ref _) (Value.int _ _)) _ _ _); k_dflt (refine' item_listM ?hqk1 ?hqk2 ?hqk3 ?hqk4 ?hqk5 ?hqk6 ?_; (case hqk1 => k_asm); (case hqk2 => k_mem); (case hqk3 => assumption); (case hqk4 | hqk5 | hqk6 => (first | lia | omega))); k_whole; intro _)) | ((k_here; (with_reducible show wpAny _ _ (subscriptTail _ _ (Value.ref _) (Value.int _ _)) _ _ _); k_dflt (refine' item_tupM ?hqk1 ?hqk2 ?hqk3 ?hqk4 ?hqk5 ?hqk6 ?_; (case hqk1 => k_asm); (case hqk2 => k_mem); (case hqk3 => assumption); (case hqk4 | hqk5 | hqk6 => (first | lia | omega))); k_whole; intro _)))) | ((with_reducible show wpAny _ _ (call (Value.builtin _) _) _ _ _); (first | ((k_here; (with_reducible show wpAny _ _ (call (Value.builtin "len") [Value.ref _]) _ _ _); k_dflt (refine' len_tupM ?hqk1 ?hqk2 ?hqk3 ?hqk4 ?_; (case hqk1 => k_asm); (case hqk2 => k_mem); (case hqk3 => exact IntsAre.length (by assumption)); (case hqk4 => (first | lia | omega))); k_whole)) | ((k_here; (with_reducible show wpAny _ _ (call (Value.builtin "len") [Value.ref _]) _ _ _); k_dflt (refine' len_listM ?hqk1 ?hqk2 ?hqk3 ?hqk4 ?_; (case hqk1 => k_asm); (case hqk2 => k_mem); (case hqk3 => exact IntsAre.length (by assumption)); (case hqk4 => (first | lia | omega))); k_whole)))))) | ((fail_if_success with_reducible (first | show wpAny _ _ (exec (Stmt.For _ _ _ _ _) _) _ _ _ | show wpAny _ _ (pyIter _) _ _ _)); first | walk1 | (dsimp only; walk1)) | (leave1; try dsimp only) | fail))
  rename Fr _ _ _ _ => lF
  with_unfolding_all refine' For_invVF lF (by exact rfl) (by exact rfl) ?_
  (repeat' (first | (k_unfold; (try dsimp only)) | (k_end; wrow_close) | ((with_reducible show wpAny _ _ (execs (_ :: _) _) _ _ (Shared.mk _ _ _ (_ + 1) _)); (with_reducible refine toks_cut ?_); intro _) | ((first | ((with_reducible show wpAny _ _ (call (Value.ref _) _) _ _ _); (first | ((k_here; (with_reducible show wpAny _ _ (call (Value.ref 45) _) _ _ _); k_dflt (refine' ct_useI (indent_ct _ _ _ _ _ _ _ _ _ _ _ ?hqh1 ?hqh2) ?kB ?kF ?kX ?kN ?kT ?kk ?kP ?kd ?ku ?_; (case hqh1 | hqh2 => (first | lia | omega)); (((case kB | kF | kX | kN | kT => k_asm); (case kk => first | exact rfl | assumption); (case kP => (first | exact trivial | assumption | exact Ws.mono (by assumption) (by (first | exact fun _ h => h | (intro p hp; k_ownIn) | (intro p hp; exact List.mem_append.mpr (.inl hp)) | (intro p hp; exact List.mem_cons_of_mem _ (List.mem_append.mpr (.inl hp))) | (intro p hp; simp only [List.mem_append, List.mem_cons] at *; simp [hp]))))); (case kd | ku => (((try dsimp only [ktrTop, Around.deeper, Around.in1] at *); (first | lia | omega)))); k_whole; intro mq_tp mq_hp mq_tkp mq_Fp mq_Np; (try dsimp only); (try k_sweep); (try k_fold)))))) | ((k_here; (with_reducible show wpAny _ _ (call (Value.ref 38) _) _ _ _); k_dflt (refine' ct_useI (longest_ct _ _ _ _ _ _ _ _ _) ?kB ?kF ?kX ?kN ?kT ?kk ?kP ?kd ?ku ?_; (((case kB | kF | kX | kN | kT => k_asm); (case kk => first | exact rfl | assumption); (case kP => (first | exact trivial | assumption | exact Ws.mono (by assumption) (by (first | exact fun _ h => h | (intro p hp; k_ownIn) | (intro p hp; exact List.mem_append.mpr (.inl hp)) | (intro p hp; exact List.mem_cons_of_mem _ (List.mem_append.mpr (.inl hp))) | (intro p hp; simp only [List.mem_append, List.mem_cons] at *; simp [hp]))))); (case kd | ku => (((try dsimp only [ktrTop, Around.deeper, Around.in1] at *); (first | lia | omega)))); k_whole; intro mq_tp mq_hp mq_tkp mq_Fp mq_Np; (try dsimp only); (try k_sweep); (try k_fold)))))))) | ((with_reducible show wpAny _ _ (subscriptTail _ _ (Value.ref _) _) _ _ _); (first | ((k_here; (with_reducible show wpAny _ _ (subscriptTail _ _ (Value.ref _) (Value.int _ _)) _ _ _); k_dflt (refine' item_listM ?hqk1 ?hqk2 ?hqk3 ?hqk4 ?hqk5 ?hqk6 ?_; (case hqk1 => k_asm); (case hqk2 => k_mem); (case hqk3 => assumption); (case hqk4 | hqk5 | hqk6 => (first | lia | omega))); k_whole; intro _)) | ((k_here; (with_reducible show wpAny _ _ (subscriptTail _ _ (Value.ref _) (Value.int _ _)) _ _ _); k_dflt (refine' item_tupM ?hqk1 ?hqk2 ?hqk3 ?hqk4 ?hqk5 ?hqk6 ?_; (case hqk1 => k_asm); (case hqk2 => k_mem); (case hqk3 => assumption); (case hqk4 | hqk5 | hqk6 => (first | lia | omega))); k_whole; intro _)))) | ((with_reducible show wpAny _ _ (call (Value.builtin _) _) _ _ _); (first | ((k_here; (with_reducible show wpAny _ _ (call (Value.builtin "len") [Value.ref _]) _ _ _); k_dflt (refine' len_tupM ?hqk1 ?hqk2 ?hqk3 ?hqk4 ?_; (case hqk1 => k_asm); (case hqk2 => k_mem); (case hqk3 => exact IntsAre.length (by assumption)); (case hqk4 => (first | lia | omega))); k_whole)) | ((k_here; (with_reducible show wpAny _ _ (call (Value.builtin "len") [Value.ref _]) _ _ _); k_dflt (refine' len_listM ?hqk1 ?hqk2 ?hqk3 ?hqk4 ?_; (case hqk1 => k_asm); (case hqk2 => k_mem); (case hqk3 => exact IntsAre.length (by assumption)); (case hqk4 => (first | lia | omega))); k_whole)))))) | ((fail_if_success with_reducible (first | show wpAny _ _ (exec (Stmt.For _ _ _ _ _) _) _ _ _ | show wpAny _ _ (pyIter _) _ _ _)); first | walk1 | (dsimp only; walk1)) | (leave1; try dsimp only) | fail))
  rename Fr _ _ _ _ => lF
  rename News _ _ _ _ => lN
  rename IsRange _ _ _ _ _ _ _ _ => hR
  have hmx : ∀ p q : Int, (if q > p then q else p) = max p q := by intro p q; split <;> (first | lia | omega)
  rw [hmx] at hR
  rename (∀ p ∈ news, p.1 < _) => hl1
  obtain ⟨la, hla⟩ := pickA hl1
  subst hla
  with_unfolding_all refine lp_range (σ := WitSt) (fun c => (la, listOf c.vs.toArray c.k) :: (c.tl ++ news)) (fun _ => []) [] (fun i c => Rows3 c.tl c.vs (wit neB (lvl nt1 b1 c1) (lvl nt2 b2 c2) i) ∧ ∀ p ∈ c.tl, la < p.1) ⟨[], 0, []⟩ (by exact rfl) hR (small_of (by (first | lia | omega)) (by (first | lia | omega)) (by (first | lia | omega)) (by (first | lia | omega))) (rangeSize_nat _ _) lF lN (List.forall_mem_nil _) ⟨.nil, fun _ h => nomatch h⟩ ?_ ?_
  · intro c i t' u h' tk' own hi hoff hP' F' N'
    obtain ⟨hrw, hab⟩ := hP'
    have hne : ∀ p ∈ c.tl ++ news ++ own, p.1 ≠ la := by
      intro p hp
      rcases List.mem_append.mp hp with hp | hp
      · rcases List.mem_append.mp hp with hp | hp
        · exact Nat.ne_of_gt (hab p hp)
        · exact Nat.ne_of_lt (hl1 p hp)
      · exact hoff p hp la (by simp)
    have hlw := wit_le neB (lvl nt1 b1 c1) (lvl nt2 b2 c2) i
    have hlv := hrw.length
    simp only [List.cons_append] at N'
    have hW1' := hW1.mono (news' := (la, listOf c.vs.toArray c.k) :: (c.tl ++ news ++ own)) (fun p hp => .tail _ (List.mem_append.mpr (.inl (List.mem_append.mpr (.inr hp)))))
    have hW2' := hW2.mono (news' := (la, listOf c.vs.toArray c.k) :: (c.tl ++ news ++ own)) (fun p hp => .tail _ (List.mem_append.mpr (.inl (List.mem_append.mpr (.inr hp)))))
    try k_fold
    (repeat' (first | (k_unfold; (try dsimp only)) | (k_end; wrow_close) | ((with_reducible show wpAny _ _ (execs (_ :: _) _) _ _ (Shared.mk _ _ _ (_ + 1) _)); (with_reducible refine toks_cut ?_); intro _) | ((first | ((with_reducible show wpAny _ _ (call (Value.ref _) _) _ _ _); (first | ((k_here; (with_reducible show wpAny _ _ (call (Value.ref 45) _) _ _ _); k_dflt (refine' ct_useI (indent_ct _ _ _ _ _ _ _ _ _ _ _ ?hqh1 ?hqh2) ?kB ?kF ?kX ?kN ?kT ?kk ?kP ?kd ?ku ?_; (case hqh1 | hqh2 => (first | lia | omega)); (((case kB | kF | kX | kN | kT => k_asm); (case kk => first | exact rfl | assumption); (case kP => (first | exact trivial | assumption | exact Ws.mono (by assumption) (by (first | exact fun _ h => h | (intro p hp; k_ownIn) | (intro p hp; exact List.mem_append.mpr (.inl hp)) | (intro p hp; exact List.mem_cons_of_mem _ (List.mem_append.mpr (.inl hp))) | (intro p hp; simp only [List.mem_append, List.mem_cons] at *; simp [hp]))))); (case kd | ku => (((try dsimp only [ktrTop, Around.deeper, Around.in1] at *); (first | lia | omega)))); k_whole; intro mq_tp mq_hp mq_tkp mq_Fp mq_Np; (try dsimp only); (try k_sweep); (try k_fold)))))) | ((k_here; (with_reducible show wpAny _ _ (call (Value.ref 38) _) _ _ _); k_dflt (refine' ct_useI (longest_ct _ _ _ _ _ _ _ _ _) ?kB ?kF ?kX ?kN ?kT ?kk ?kP ?kd ?ku ?_; (((case kB | kF | kX | kN | kT => k_asm); (case kk => first | exact rfl | assumption); (case kP => (first | exact trivial | assumption | exact Ws.mono (by assumption) (by (first | exact fun _ h => h | (intro p hp; k_ownIn) | (intro p hp; exact List.mem_append.mpr (.inl hp)) | (intro p hp; exact List.mem_cons_of_mem _ (List.mem_append.mpr (.inl hp))) | (intro p hp; simp only [List.mem_append, List.mem_cons] at *; simp [hp]))))); (case kd | ku => (((try dsimp only [ktrTop, Around.deeper, Around.in1] at *); (first | lia | omega)))); k_whole; intro mq_tp mq_hp mq_tkp mq_Fp mq_Np; (try dsimp only); (try k_sweep); (try k_fold)))))))) | ((with_reducible show wpAny _ _ (subscriptTail _ _ (Value.ref _) _) _ _ _); (first | ((k_here; (with_reducible show wpAny _ _ (subscriptTail _ _ (Value.ref _) (Value.int _ _)) _ _ _); k_dflt (refine' item_listM ?hqk1 ?hqk2 ?hqk3 ?hqk4 ?hqk5 ?hqk6 ?_; (case hqk1 => k_asm); (case hqk2 => k_mem); (case hqk3 => assumption); (case hqk4 | hqk5 | hqk6 => (first | lia | omega))); k_whole; intro _)) | ((k_here; (with_reducible show wpAny _ _ (subscriptTail _ _ (Value.ref _) (Value.int _ _)) _ _ _); k_dflt (refine' item_tupM ?hqk1 ?hqk2 ?hqk3 ?hqk4 ?hqk5 ?hqk6 ?_; (case hqk1 => k_asm); (case hqk2 => k_mem); (case hqk3 => assumption); (case hqk4 | hqk5 | hqk6 => (first | lia | omega))); k_whole; intro _)))) | ((with_reducible show wpAny _ _ (call (Value.builtin _) _) _ _ _); (first | ((k_here; (with_reducible show wpAny _ _ (call (Value.builtin "len") [Value.ref _]) _ _ _); k_dflt (refine' len_tupM ?hqk1 ?hqk2 ?hqk3 ?hqk4 ?_; (case hqk1 => k_asm); (case hqk2 => k_mem); (case hqk3 => exact IntsAre.length (by assumption)); (case hqk4 => (first | lia | omega))); k_whole)) | ((k_here; (with_reducible show wpAny _ _ (call (Value.builtin "len") [Value.ref _]) _ _ _); k_dflt (refine' len_listM ?hqk1 ?hqk2 ?hqk3 ?hqk4 ?_; (case hqk1 => k_asm); (case hqk2 => k_mem); (case hqk3 => exact IntsAre.length (by assumption)); (case hqk4 => (first | lia | omega))); k_whole)))))) | ((fail_if_success with_reducible (first | show wpAny _ _ (exec (Stmt.For _ _ _ _ _) _) _ _ _ | show wpAny _ _ (pyIter _) _ _ _)); first | walk1 | (dsimp only; walk1)) | (leave1; try dsimp only) | fail))
    · have hge : neB (lvl nt1 b1 c1 (1 + (i : Int))) (lvl nt2 b2 c2 (1 + (i : Int))) = true := decide_eq_true (by first | assumption | (first | lia | omega))
      rename News _ _ _ _ => lN2
      rename (la < _ ∧ AllLt _ _) => hD
      obtain ⟨D, eD⟩ := pickD hD
      subst eD
      simp only [List.push_toArray] at lN2
      refine lp_end ⟨c.vs ++ [.ref D], c.k + 1, (D, tupOb #[.int _ _, .int _ _, .int _ _] _) :: c.tl⟩ (by k_asm) lN2 (fun p hp => wit_mem hp) (fun p hp => wit_mem2 hp) (wit_off hoff hD.2) (List.forall_mem_nil _) (by ((intro mq_z mq_h1 mq_h2 mq_h3; (try simp only [List.forall_mem_cons] at mq_h2); first | (simp [kstB, mq_h1, mq_h2, mq_h3]; done) | (simp [kstB, mq_h1, mq_h2]; done) | (simp [kstB, mq_h1]; done) | (simp_all [kstB]; done)))) ⟨?_, ?_⟩
      · unfold wit
        rw [if_pos hge]
        exact (hrw.mono (fun p hp => List.mem_cons_of_mem _ hp)).snoc List.mem_cons_self
      · intro p hp
        rcases List.mem_cons.mp hp with rfl | hp
        · exact hD.1
        · exact hab p hp
    · have hge : ¬ neB (lvl nt1 b1 c1 (1 + (i : Int))) (lvl nt2 b2 c2 (1 + (i : Int))) = true := fun e => of_decide_eq_true e (by first | assumption | (first | lia | omega))
      refine lp_end c (by k_asm) (by k_asm) (fun p hp => wit_mem3 hp) (fun p hp => wit_mem4 hp) hoff (List.forall_mem_nil _) (by ((intro mq_z mq_h1 mq_h2 mq_h3; (try simp only [List.forall_mem_cons] at mq_h2); first | (simp [kstB, mq_h1, mq_h2, mq_h3]; done) | (simp [kstB, mq_h1, mq_h2]; done) | (simp [kstB, mq_h1]; done) | (simp_all [kstB]; done)))) ⟨?_, hab⟩
      unfold wit
      rw [if_neg hge, List.append_nil]
      exact hrw
  · intro c u h' tk' hP' F' N'
    try k_fold
    (repeat' (first | (k_unfold; (try dsimp only)) | (k_end; wrow_close) | ((with_reducible show wpAny _ _ (execs (_ :: _) _) _ _ (Shared.mk _ _ _ (_ + 1) _)); (with_reducible refine toks_cut ?_); intro _) | ((first | ((with_reducible show wpAny _ _ (call (Value.ref _) _) _ _ _); (first | ((k_here; (with_reducible show wpAny _ _ (call (Value.ref 45) _) _ _ _); k_dflt (refine' ct_useI (indent_ct _ _ _ _ _ _ _ _ _ _ _ ?hqh1 ?hqh2) ?kB ?kF ?kX ?kN ?kT ?kk ?kP ?kd ?ku ?_; (case hqh1 | hqh2 => (first | lia | omega)); (((case kB | kF | kX | kN | kT => k_asm); (case kk => first | exact rfl | assumption); (case kP => (first | exact trivial | assumption | exact Ws.mono (by assumption) (by (first | exact fun _ h => h | (intro p hp; k_ownIn) | (intro p hp; exact List.mem_append.mpr (.inl hp)) | (intro p hp; exact List.mem_cons_of_mem _ (List.mem_append.mpr (.inl hp))) | (intro p hp; simp only [List.mem_append, List.mem_cons] at *; simp [hp]))))); (case kd | ku => (((try dsimp only [ktrTop, Around.deeper, Around.in1] at *); (first | lia | omega)))); k_whole; intro mq_tp mq_hp mq_tkp mq_Fp mq_Np; (try dsimp only); (try k_sweep); (try k_fold)))))) | ((k_here; (with_reducible show wpAny _ _ (call (Value.ref 38) _) _ _ _); k_dflt (refine' ct_useI (longest_ct _ _ _ _ _ _ _ _ _) ?kB ?kF ?kX ?kN ?kT ?kk ?kP ?kd ?ku ?_; (((case kB | kF | kX | kN | kT => k_asm); (case kk => first | exact rfl | assumption); (case kP => (first | exact trivial | assumption | exact Ws.mono (by assumption) (by (first | exact fun _ h => h | (intro p hp; k_ownIn) | (intro p hp; exact List.mem_append.mpr (.inl hp)) | (intro p hp; exact List.mem_cons_of_mem _ (List.mem_append.mpr (.inl hp))) | (intro p hp; simp only [List.mem_append, List.mem_cons] at *; simp [hp]))))); (case kd | ku => (((try dsimp only [ktrTop, Around.deeper, Around.in1] at *); (first | lia | omega)))); k_whole; intro mq_tp mq_hp mq_tkp mq_Fp mq_Np; (try dsimp only); (try k_sweep); (try k_fold)))))))) | ((with_reducible show wpAny _ _ (subscriptTail _ _ (Value.ref _) _) _ _ _); (first | ((k_here; (with_reducible show wpAny _ _ (subscriptTail _ _ (Value.ref _) (Value.int _ _)) _ _ _); k_dflt (refine' item_listM ?hqk1 ?hqk2 ?hqk3 ?hqk4 ?hqk5 ?hqk6 ?_; (case hqk1 => k_asm); (case hqk2 => k_mem); (case hqk3 => assumption); (case hqk4 | hqk5 | hqk6 => (first | lia | omega))); k_whole; intro _)) | ((k_here; (with_reducible show wpAny _ _ (subscriptTail _ _ (Value.ref _) (Value.int _ _)) _ _ _); k_dflt (refine' item_tupM ?hqk1 ?hqk2 ?hqk3 ?hqk4 ?hqk5 ?hqk6 ?_; (case hqk1 => k_asm); (case hqk2 => k_mem); (case hqk3 => assumption); (case hqk4 | hqk5 | hqk6 => (first | lia | omega))); k_whole; intro _)))) | ((with_reducible show wpAny _ _ (call (Value.builtin _) _) _ _ _); (first | ((k_here; (with_reducible show wpAny _ _ (call (Value.builtin "len") [Value.ref _]) _ _ _); k_dflt (refine' len_tupM ?hqk1 ?hqk2 ?hqk3 ?hqk4 ?_; (case hqk1 => k_asm); (case hqk2 => k_mem); (case hqk3 => exact IntsAre.length (by assumption)); (case hqk4 => (first | lia | omega))); k_whole)) | ((k_here; (with_reducible show wpAny _ _ (call (Value.builtin "len") [Value.ref _]) _ _ _); k_dflt (refine' len_listM ?hqk1 ?hqk2 ?hqk3 ?hqk4 ?_; (case hqk1 => k_asm); (case hqk2 => k_mem); (case hqk3 => exact IntsAre.length (by assumption)); (case hqk4 => (first | lia | omega))); k_whole)))))) | ((fail_if_success with_reducible (first | show wpAny _ _ (exec (Stmt.For _ _ _ _ _) _) _ _ _ | show wpAny _ _ (pyIter _) _ _ _)); first | walk1 | (dsimp only; walk1)) | (leave1; try dsimp only) | fail))
    obtain ⟨hrw, hab⟩ := hP'
    refine hret _ ((la, listOf c.vs.toArray c.k) :: c.tl) _ _ (by k_asm) (by k_asm) ?_ ⟨la, c.vs, c.k, rfl, List.mem_cons_self, ?_⟩
    · intro q hq p hp
      rcases List.mem_cons.mp hp with rfl | hp
      · exact Nat.ne_of_lt (hl1 q hq)
      · exact Nat.ne_of_lt (Nat.lt_trans (hl1 q hq) (hab p hp))
    · have e : (max (max ((c1.length : Int) - 1) b1) (max ((c2.length : Int) - 1) b2) + 1 + 1 - 1).toNat = (max (max ((c1.length : Int) - 1) b1) (max ((c2.length : Int) - 1) b2) + 1).toNat := by (first | lia | omega)
      rw [e] at hrw
      exact hrw.mono (fun p hp => List.mem_cons_of_mem _ hp)
def scan : List Nat → Int → Int → Int → List Int → Int × Int × Int × List Int
  | [], n, nt, b, cn => (n, nt, b, cn)
  | k :: r, n, nt, b, cn =>
    if k = 32 then scan r (n + 1) nt (b + 1) cn
    else if k = 9 then
      let cn' := if b ≥ (cn.length : Int) then cn ++ List.replicate (b - (cn.length : Int) + 1).toNat 0 else cn
      scan r (n + 1) (nt + 1) 0 (cn'.set b.toNat (cn'.getD b.toNat 0 + 1))
    else (n, nt, b, cn)
theorem pickL {D la x d : Addr} {news : Led} (_ : D < la ∧ x < la ∧ d < la ∧ AllLt la news) : ∃ a : Addr, a = la := ⟨la, rfl⟩
theorem pickO {h₀ h : Heap} {L l D x d : Addr} {o1 oD ox od : Obj} {news : Led} (_ : News h₀ L h ((l, o1) :: (D, oD) :: (x, ox) :: (d, od) :: news)) : ∃ o : Obj, o = od := ⟨od, rfl⟩
theorem ofS_sp : Str.ofString " " = ⟨#[32]⟩ := by decide +kernel
theorem ofS_tab : Str.ofString "\t" = ⟨#[9]⟩ := by decide +kernel
theorem mk1_inj {k j : Nat} (h : (⟨#[k]⟩ : Str) = ⟨#[j]⟩) : k = j := by
  have := congrArg (fun s : Str => s.cps.toList) h
  simpa using this
theorem chr_sp {k : Nat} (h : ((⟨#[k]⟩ : Str) == Str.ofString " ") = true) : k = 32 := by
  rw [ofS_sp] at h; exact mk1_inj (eq_of_beq h)
theorem chr_tab {k : Nat} (h : ((⟨#[k]⟩ : Str) == Str.ofString "\t") = true) : k = 9 := by
  rw [ofS_tab] at h; exact mk1_inj (eq_of_beq h)
theorem chr_sp' {k : Nat} (h : ((⟨#[k]⟩ : Str) == Str.ofString " ") = false) : ¬ k = 32 := by
  rintro rfl; rw [ofS_sp] at h; exact absurd h (by decide)
theorem chr_tab' {k : Nat} (h : ((⟨#[k]⟩ : Str) == Str.ofString "\t") = false) : ¬ k = 9 := by
  rintro rfl; rw [ofS_tab] at h; exact absurd h (by decide)
theorem drop_at {xt : Str} {i k : Nat} (h : xt.cps[i]? = some k) : xt.cps.toList.drop i = k :: xt.cps.toList.drop (i + 1) := by
  have h' : xt.cps.toList[i]? = some k := by simpa using h
  obtain ⟨hi, e⟩ := List.getElem?_eq_some_iff.mp h'
  rw [List.drop_eq_getElem_cons hi, e]
theorem flat_zeros (m : Nat) : (List.replicate m [(0 : Int)]).flatten = List.replicate m 0 := by simp
theorem in_mem1 {p a b c : Addr × Obj} {news own : Led} (h : p ∈ a :: b :: c :: news) : p ∈ a :: b :: c :: (news ++ own) := by
  simp only [List.mem_cons, List.mem_append] at *
  rcases h with h | h | h | h <;> simp [h]
theorem in_mem2 {p a b c : Addr × Obj} {news own : Led} (h : p ∈ own) : p ∈ a :: b :: c :: (news ++ own) := by simp [h]
theorem in_mem3 {p a b c d1 d2 d3 : Addr × Obj} {news own : Led} (h : p ∈ a :: b :: c :: news) : p ∈ a :: d1 :: d2 :: d3 :: b :: c :: (news ++ own) := by
  simp only [List.mem_cons, List.mem_append] at *
  rcases h with h | h | h | h <;> simp [h]
theorem in_mem4 {p a b c d1 d2 d3 : Addr × Obj} {news own : Led} (h : p ∈ own) : p ∈ a :: d1 :: d2 :: d3 :: b :: c :: (news ++ own) := by simp [h]
theorem in_off {a D x d : Addr} {o1 o2 o3 o4 o5 o6 : Obj} {news own : Led} (h : OwnOff own (((a, o1) :: (x, o2) :: (d, o3) :: news).map (·.1))) (hD : AllLt D (news ++ own)) : OwnOff own (((D, o4) :: (x, o5) :: (d, o6) :: news).map (·.1)) := by
  intro p hp b hb
  simp only [List.map_cons, List.mem_cons] at hb
  rcases hb with rfl | hb
  · exact Nat.ne_of_lt (ktn_ltOf hD p (by simp [hp]))
  · exact h p hp b (by simp only [List.map_cons, List.mem_cons]; exact .inr hb)
theorem in_off2 {a x d : Addr} {o1 o2 o3 o4 o5 o6 : Obj} {news own : Led} (h : OwnOff own (((a, o1) :: (x, o2) :: (d, o3) :: news).map (·.1))) : OwnOff own (((a, o4) :: (x, o5) :: (d, o6) :: news).map (·.1)) := h
theorem allLt_left {D : Addr} : ∀ {l r : Led}, AllLt D (l ++ r) → AllLt D l
  | [], _, _ => trivial
  | _ :: _, _, h => ⟨h.1, allLt_left h.2⟩
theorem pickD5 {a b c x d D : Addr} {l : Led} (_ : a < D ∧ b < D ∧ c < D ∧ x < D ∧ d < D ∧ AllLt D l) : ∃ a : Addr, a = D := ⟨D, rfl⟩
theorem init_end {w : World} {h₀ h : Heap} {L x d D' D ca : Addr} {oc : Obj} {n nt b : Int} {cn : List Int} {vs : List Value} {raw : Str} {t1 t2 t3 t4 t5 t6 t7 t8 t9 : Tok} {k1 k2 : Nat} {news rest : Led}
    (N : News h₀ L h ((D', tupOb #[.ref D, .int b t9] k1) :: (D, tupOb vs.toArray k2) :: (ca, oc) :: (x, instObj 76 d) :: (d, dictOf [⟨PyData.keyHash w.params (Str.ofString "raw"), .str (Str.ofString "raw") t1, .str raw t2⟩, ⟨PyData.keyHash w.params (Str.ofString "n"), .str (Str.ofString "n") t3, .int n t4⟩,
      ⟨PyData.keyHash w.params (Str.ofString "nt"), .str (Str.ofString "nt") t5, .int nt t6⟩, ⟨PyData.keyHash w.params (Str.ofString "norm"), .str (Str.ofString "norm") t7, .ref D'⟩,
      ⟨PyData.keyHash w.params (Str.ofString "is_simple"), .str (Str.ofString "is_simple") t8, .bool (decide ((cn.length : Int) ≤ 1))⟩] 5) :: rest))
    (hs : ∀ p ∈ news, p ∈ rest) (l1 : ∀ p ∈ news, p.1 < d) (l2 : @LT.lt Nat _ d x) (l3 : @LT.lt Nat _ d D) (l4 : @LT.lt Nat _ d D') (hi : IntsAre vs cn) (hl : cn.length < 400) (hb0 : 0 ≤ b) (hb1 : b < 400) :
    ∃ tl, News h₀ L h (tl ++ news) ∧ (∀ q ∈ news, ∀ p ∈ tl, q.1 < p.1) ∧ Ws w tl (.ref x) n nt b cn := by
  refine ⟨[_, _, _, _], fun p hp => ?_, ?_, ⟨x, d, D', D, vs, raw, t1, t2, t3, t4, t5, t6, t7, t8, t9, k1, k2, rfl, ⟨.head _, .tail _ (.head _), .tail _ (.tail _ (.head _)), .tail _ (.tail _ (.tail _ (.head _))), hi, hl, hb0, hb1⟩⟩⟩
  · simp only [List.cons_append, List.nil_append, List.mem_cons] at hp
    refine N p ?_
    rcases hp with h | h | h | h | h
    · rw [h]; exact .tail _ (.tail _ (.tail _ (.head _)))
    · rw [h]; exact .tail _ (.tail _ (.tail _ (.tail _ (.head _))))
    · rw [h]; exact .head _
    · rw [h]; exact .tail _ (.head _)
    · exact .tail _ (.tail _ (.tail _ (.tail _ (.tail _ (hs p h)))))
  · intro q hq p hp
    have := l1 q hq
    simp only [List.mem_cons, List.not_mem_nil, or_false] at hp
    rcases hp with h | h | h | h <;> rw [h]
    · exact Nat.lt_trans this l2
    · exact this
    · exact Nat.lt_trans this l4
    · exact Nat.lt_trans this l3
structure InSt where
  n : Int
  nt : Int
  b : Int
  tn : Tok
  tnt : Tok
  tb : Tok
  ca : Addr
  vs : List Value
  k : Nat
  cn : List Int
theorem init_ct (w : World) (mean : ExcName → Option Value) (mg mb : Str → Option Value) (xt : Str) (tx : Tok) (hasc : xt.cps.all (· < 128) = true) (hlen : xt.cps.size ≤ 100) :
   Ct w mean mg mb 76 2 [.str xt tx] (fun _ => True)
    (fun news tl r => ∃ n nt b cn, scan xt.cps.toList 0 0 0 [] = (n, nt, b, cn) ∧ Ws w tl r n nt b cn) := by
  unfold Ct
  k_fill
  intro dp un gd cs' cs a ccd cl outer A₀ base h₀ L m news s Q E B F X N T hk hP hd hu hret
  k_dflt (refine' call_cls ?k1 ?k2 ?k3 ?k4 ?k5 ?k6 ?_; (case k1 => k_asm); (case k2 => k_asm); (case k3 => k_asm); (case k4 => k_is); (case k5 => k_is); (case k6 => k_is); k_whole; intro x d h' F' N' l1 l2; k_dflt ktr_enter)
  rename Fr _ _ _ (fun y => List.lookup y _) => lF
  with_unfolding_all replace lF := fr_of_lookup (l := [(Str.ofString "ws", .str xt tx), (Str.ofString "self", .ref x)]) lF
  replace l2 := ltN l2
  have hned : ∀ p ∈ news, p.1 ≠ d := fun p hp => Nat.ne_of_lt (l1 p hp)
  (repeat' (first | (k_unfold; (try dsimp only)) | (k_end; wrow_close) | ((with_reducible show wpAny _ _ (execs (_ :: _) _) _ _ (Shared.mk _ _ _ (_ + 1) _)); (with_reducible refine toks_cut ?_); intro _) | ((first | ((with_reducible show wpAny _ _ (newTuple _) _ _ _); ((k_here; k_dflt (refine' kup_newTuple ?hqF ?hqN ?_ ?hqz; (case hqF | hqN => k_asm); (case hqz => kmk_size)); intro _ _ _ _ hq_l1; (try k_lt hq_l1); (try k_sweep)))) | ((k_here; (with_reducible show wpAny _ _ (call (Value.type _) [Value.ref _]) _ _ _); k_dflt (refine' kde_tupleOf ?hqk1 ?hqk2 ?hqk3 ?hqk4 ?hqk5 ?_; (case hqk1 | hqk2 => k_asm); (case hqk3 => exact News.isList (by k_asm) (by k_mem)); (case hqk4 => (simp only [List.size_toArray]; omega)); (case hqk5 => exact rfl); k_whole); intro _ _ _ _ hq_l1; (try k_lt hq_l1); (try k_sweep))) | ((with_reducible show wpAny _ _ (subscriptTail _ _ (Value.ref _) _) _ _ _); (first | ((k_here; (with_reducible show wpAny _ _ (subscriptTail _ _ (Value.ref _) (Value.int _ _)) _ _ _); k_dflt (refine' item_listM ?hqk1 ?hqk2 ?hqk3 ?hqk4 ?hqk5 ?hqk6 ?_; (case hqk1 => k_asm); (case hqk2 => k_mem); (case hqk3 => assumption); (case hqk4 | hqk5 | hqk6 => omega)); k_whole; intro _)) | ((k_here; (with_reducible show wpAny _ _ (subscriptTail _ _ (Value.ref _) (Value.int _ _)) _ _ _); k_dflt (refine' item_tupM ?hqk1 ?hqk2 ?hqk3 ?hqk4 ?hqk5 ?hqk6 ?_; (case hqk1 => k_asm); (case hqk2 => k_mem); (case hqk3 => assumption); (case hqk4 | hqk5 | hqk6 => omega)); k_whole; intro _)))) | ((with_reducible show wpAny _ _ (call (Value.builtin _) _) _ _ _); (first | ((k_here; (with_reducible show wpAny _ _ (call (Value.builtin "len") [Value.ref _]) _ _ _); k_dflt (refine' len_tupM ?hqk1 ?hqk2 ?hqk3 ?hqk4 ?_; (case hqk1 => k_asm); (case hqk2 => k_mem); (case hqk3 => exact IntsAre.length (by assumption)); (case hqk4 => omega)); k_whole)) | ((k_here; (with_reducible show wpAny _ _ (call (Value.builtin "len") [Value.ref _]) _ _ _); k_dflt (refine' len_listM ?hqk1 ?hqk2 ?hqk3 ?hqk4 ?_; (case hqk1 => k_asm); (case hqk2 => k_mem); (case hqk3 => exact IntsAre.length (by assumption)); (case hqk4 => omega)); k_whole)))))) | ((fail_if_success with_reducible (first | show wpAny _ _ (exec (Stmt.For _ _ _ _ _) _) _ _ _ | show wpAny _ _ (pyIter _) _ _ _)); first | walk1 | (dsimp only; walk1)) | (leave1; try dsimp only) | fail))
  rename Fr _ _ _ _ => lF
  with_unfolding_all refine' For_invVF lF (by exact rfl) (by exact rfl) ?_
  (repeat' (first | (k_unfold; (try dsimp only)) | (k_end; wrow_close) | ((with_reducible show wpAny _ _ (execs (_ :: _) _) _ _ (Shared.mk _ _ _ (_ + 1) _)); (with_reducible refine toks_cut ?_); intro _) | ((first | ((with_reducible show wpAny _ _ (newTuple _) _ _ _); ((k_here; k_dflt (refine' kup_newTuple ?hqF ?hqN ?_ ?hqz; (case hqF | hqN => k_asm); (case hqz => kmk_size)); intro _ _ _ _ hq_l1; (try k_lt hq_l1); (try k_sweep)))) | ((k_here; (with_reducible show wpAny _ _ (call (Value.type _) [Value.ref _]) _ _ _); k_dflt (refine' kde_tupleOf ?hqk1 ?hqk2 ?hqk3 ?hqk4 ?hqk5 ?_; (case hqk1 | hqk2 => k_asm); (case hqk3 => exact News.isList (by k_asm) (by k_mem)); (case hqk4 => (simp only [List.size_toArray]; omega)); (case hqk5 => exact rfl); k_whole); intro _ _ _ _ hq_l1; (try k_lt hq_l1); (try k_sweep))) | ((with_reducible show wpAny _ _ (subscriptTail _ _ (Value.ref _) _) _ _ _); (first | ((k_here; (with_reducible show wpAny _ _ (subscriptTail _ _ (Value.ref _) (Value.int _ _)) _ _ _); k_dflt (refine' item_listM ?hqk1 ?hqk2 ?hqk3 ?hqk4 ?hqk5 ?hqk6 ?_; (case hqk1 => k_asm); (case hqk2 => k_mem); (case hqk3 => assumption); (case hqk4 | hqk5 | hqk6 => omega)); k_whole; intro _)) | ((k_here; (with_reducible show wpAny _ _ (subscriptTail _ _ (Value.ref _) (Value.int _ _)) _ _ _); k_dflt (refine' item_tupM ?hqk1 ?hqk2 ?hqk3 ?hqk4 ?hqk5 ?hqk6 ?_; (case hqk1 => k_asm); (case hqk2 => k_mem); (case hqk3 => assumption); (case hqk4 | hqk5 | hqk6 => omega)); k_whole; intro _)))) | ((with_reducible show wpAny _ _ (call (Value.builtin _) _) _ _ _); (first | ((k_here; (with_reducible show wpAny _ _ (call (Value.builtin "len") [Value.ref _]) _ _ _); k_dflt (refine' len_tupM ?hqk1 ?hqk2 ?hqk3 ?hqk4 ?_; (case hqk1 => k_asm); (case hqk2 => k_mem); (case hqk3 => exact IntsAre.length (by assumption)); (case hqk4 => omega)); k_whole)) | ((k_here; (with_reducible show wpAny _ _ (call (Value.builtin "len") [Value.ref _]) _ _ _); k_dflt (refine' len_listM ?hqk1 ?hqk2 ?hqk3 ?hqk4 ?_; (case hqk1 => k_asm); (case hqk2 => k_mem); (case hqk3 => exact IntsAre.length (by assumption)); (case hqk4 => omega)); k_whole)))))) | ((fail_if_success with_reducible (first | show wpAny _ _ (exec (Stmt.For _ _ _ _ _) _) _ _ _ | show wpAny _ _ (pyIter _) _ _ _)); first | walk1 | (dsimp only; walk1)) | (leave1; try dsimp only) | fail))
  rename Fr _ _ _ _ => lF
  rename News _ _ _ _ => lN
  rename (_ < _ ∧ x < _ ∧ d < _ ∧ AllLt _ news) => hl
  obtain ⟨la, hla⟩ := pickL hl
  subst hla
  obtain ⟨od, hod⟩ := pickO lN
  rw [← hod] at lN
  obtain ⟨t1, t2, hod'⟩ : ∃ t1 t2, od = dictOf [⟨PyData.keyHash w.params (Str.ofString "raw"), .str (Str.ofString "raw") t1, .str xt t2⟩] 1 := ⟨_, _, hod⟩
  clear hod
  subst hod'
  replace lN := kst_newsOf (l' := (la, listOf [].toArray 0) :: (x, instObj 76 d) :: (d, dictOf [⟨PyData.keyHash w.params (Str.ofString "raw"), .str (Str.ofString "raw") t1, .str xt t2⟩] 1) :: news) lN (fun p hp => by simp only [List.mem_cons] at *; rcases hp with h | h | h | h <;> simp [h])
  with_unfolding_all refine' lp_str (σ := InSt) (fun c => (c.ca, listOf c.vs.toArray c.k) :: (x, instObj 76 d) :: (d, dictOf [⟨PyData.keyHash w.params (Str.ofString "raw"), .str (Str.ofString "raw") t1, .str xt t2⟩] 1) :: news) (fun c => [(Str.ofString "count", .ref c.ca), (Str.ofString "b", .int c.b c.tb), (Str.ofString "n", .int c.n c.tn), (Str.ofString "nt", .int c.nt c.tnt)]) [] (fun i c => scan (xt.cps.toList.drop i) c.n c.nt c.b c.cn = scan xt.cps.toList 0 0 0 [] ∧ IntsAre c.vs c.cn ∧ 0 ≤ c.b ∧ c.b ≤ i ∧ c.cn.length ≤ i ∧ x < c.ca ∧ d < c.ca ∧ AllLt c.ca news) ⟨0, 0, 0, _, _, _, la, [], 0, []⟩ (by exact rfl) hasc lF lN ?k1 ⟨rfl, .nil, by exact Int.le_refl 0, by exact Int.le_refl 0, by exact Nat.le_refl 0, hl.2.1, hl.2.2.1, hl.2.2.2⟩ ?k2 ?k3
  (case k1 => exact List.forall_mem_cons.mpr ⟨by with_unfolding_all rfl, List.forall_mem_cons.mpr ⟨by with_unfolding_all rfl, List.forall_mem_cons.mpr ⟨by with_unfolding_all rfl, List.forall_mem_cons.mpr ⟨by with_unfolding_all rfl, List.forall_mem_nil _⟩⟩⟩⟩)
  · intro c i k t' u h' tk' own hv hoff hP' F' N'
    have hsc := hP'.1
    have hints := hP'.2.1
    have hb0 := hP'.2.2.1
    have hb1 := hP'.2.2.2.1
    have hcl := hP'.2.2.2.2.1
    have hx1 := hP'.2.2.2.2.2.1
    have hx2 := hP'.2.2.2.2.2.2.1
    have hx3 := hP'.2.2.2.2.2.2.2
    replace hx1 := ltN hx1
    replace hx2 := ltN hx2
    have hi : i < xt.cps.size := by
      rcases Nat.lt_or_ge i xt.cps.size with h | h
      · exact h
      · rw [Array.getElem?_eq_none h] at hv; cases hv
    have hne : ∀ p ∈ news ++ own, p.1 ≠ c.ca := by
      intro p hp
      rcases List.mem_append.mp hp with hp | hp
      · exact Nat.ne_of_lt (ktn_ltOf hx3 p hp)
      · exact hoff p hp c.ca (by simp)
    have hned2 : ∀ p ∈ news ++ own, p.1 ≠ d := by
      intro p hp
      rcases List.mem_append.mp hp with hp | hp
      · exact hned p hp
      · exact hoff p hp d (by simp)
    have hvl : c.vs.length ≤ 1000 := by have := hints.length; omega
    simp only [List.cons_append] at N'
    try k_fold
    (repeat' (first | (k_unfold; (try dsimp only)) | (k_end; wrow_close) | ((with_reducible show wpAny _ _ (execs (_ :: _) _) _ _ (Shared.mk _ _ _ (_ + 1) _)); (with_reducible refine toks_cut ?_); intro _) | ((first | ((with_reducible show wpAny _ _ (newTuple _) _ _ _); ((k_here; k_dflt (refine' kup_newTuple ?hqF ?hqN ?_ ?hqz; (case hqF | hqN => k_asm); (case hqz => kmk_size)); intro _ _ _ _ hq_l1; (try k_lt hq_l1); (try k_sweep)))) | ((k_here; (with_reducible show wpAny _ _ (call (Value.type _) [Value.ref _]) _ _ _); k_dflt (refine' kde_tupleOf ?hqk1 ?hqk2 ?hqk3 ?hqk4 ?hqk5 ?_; (case hqk1 | hqk2 => k_asm); (case hqk3 => exact News.isList (by k_asm) (by k_mem)); (case hqk4 => (simp only [List.size_toArray]; omega)); (case hqk5 => exact rfl); k_whole); intro _ _ _ _ hq_l1; (try k_lt hq_l1); (try k_sweep))) | ((with_reducible show wpAny _ _ (subscriptTail _ _ (Value.ref _) _) _ _ _); (first | ((k_here; (with_reducible show wpAny _ _ (subscriptTail _ _ (Value.ref _) (Value.int _ _)) _ _ _); k_dflt (refine' item_listM ?hqk1 ?hqk2 ?hqk3 ?hqk4 ?hqk5 ?hqk6 ?_; (case hqk1 => k_asm); (case hqk2 => k_mem); (case hqk3 => assumption); (case hqk4 | hqk5 | hqk6 => omega)); k_whole; intro _)) | ((k_here; (with_reducible show wpAny _ _ (subscriptTail _ _ (Value.ref _) (Value.int _ _)) _ _ _); k_dflt (refine' item_tupM ?hqk1 ?hqk2 ?hqk3 ?hqk4 ?hqk5 ?hqk6 ?_; (case hqk1 => k_asm); (case hqk2 => k_mem); (case hqk3 => assumption); (case hqk4 | hqk5 | hqk6 => omega)); k_whole; intro _)))) | ((with_reducible show wpAny _ _ (call (Value.builtin _) _) _ _ _); (first | ((k_here; (with_reducible show wpAny _ _ (call (Value.builtin "len") [Value.ref _]) _ _ _); k_dflt (refine' len_tupM ?hqk1 ?hqk2 ?hqk3 ?hqk4 ?_; (case hqk1 => k_asm); (case hqk2 => k_mem); (case hqk3 => exact IntsAre.length (by assumption)); (case hqk4 => omega)); k_whole)) | ((k_here; (with_reducible show wpAny _ _ (call (Value.builtin "len") [Value.ref _]) _ _ _); k_dflt (refine' len_listM ?hqk1 ?hqk2 ?hqk3 ?hqk4 ?_; (case hqk1 => k_asm); (case hqk2 => k_mem); (case hqk3 => exact IntsAre.length (by assumption)); (case hqk4 => omega)); k_whole)))))) | ((fail_if_success with_reducible (first | show wpAny _ _ (exec (Stmt.For _ _ _ _ _) _) _ _ _ | show wpAny _ _ (pyIter _) _ _ _)); first | walk1 | (dsimp only; walk1)) | (leave1; try dsimp only) | fail))
    · -- a blank
      rename ((_ == Str.ofString " ") = true) => hs1
      have hk := chr_sp hs1
      refine lp_end ⟨c.n + 1, c.nt, c.b + 1, _, c.tnt, _, c.ca, c.vs, c.k, c.cn⟩ (by k_asm) (by k_asm) (fun p hp => in_mem1 hp) (fun p hp => in_mem2 hp) hoff (List.forall_mem_cons.mpr ⟨by with_unfolding_all rfl, List.forall_mem_cons.mpr ⟨by with_unfolding_all rfl, List.forall_mem_cons.mpr ⟨by with_unfolding_all rfl, List.forall_mem_cons.mpr ⟨by with_unfolding_all rfl, List.forall_mem_nil _⟩⟩⟩⟩) (by ((intro mq_z mq_h1 mq_h2 mq_h3; (try simp only [List.forall_mem_cons] at mq_h2); first | (simp [kstB, mq_h1, mq_h2, mq_h3]; done) | (simp [kstB, mq_h1, mq_h2]; done) | (simp [kstB, mq_h1]; done) | (simp_all [kstB]; done)))) ⟨?_, hints, by dsimp only; omega, by dsimp only; omega, by dsimp only; omega, hx1, hx2, hx3⟩
      rw [← hsc, drop_at hv, hk]
      rfl
    · -- a tab beyond the list
      rename ((_ == Str.ofString " ") = false) => hs1
      rename ((_ == Str.ofString "\t") = true) => hs2
      have hk1 := chr_sp' hs1
      have hk := chr_tab hs2
      rename (_ < _ ∧ _ < _ ∧ c.ca < _ ∧ x < _ ∧ d < _ ∧ AllLt _ (news ++ own)) => hD
      obtain ⟨D, eD⟩ := pickD5 hD
      subst eD
      refine lp_end ⟨c.n + 1, c.nt + 1, 0, _, _, _, D, _, 0, (c.cn ++ (List.replicate (c.b - ↑c.cn.length + 1).toNat [(0 : Int)]).flatten).set c.b.toNat ((c.cn ++ (List.replicate (c.b - ↑c.cn.length + 1).toNat [(0 : Int)]).flatten).getD c.b.toNat 0 + 1)⟩ (by k_asm) (by k_asm) (fun p hp => in_mem3 hp) (fun p hp => in_mem4 hp) (in_off hoff hD.2.2.2.2.2) (List.forall_mem_cons.mpr ⟨by with_unfolding_all rfl, List.forall_mem_cons.mpr ⟨by with_unfolding_all rfl, List.forall_mem_cons.mpr ⟨by with_unfolding_all rfl, List.forall_mem_cons.mpr ⟨by with_unfolding_all rfl, List.forall_mem_nil _⟩⟩⟩⟩) (by ((intro mq_z mq_h1 mq_h2 mq_h3; (try simp only [List.forall_mem_cons] at mq_h2); first | (simp [kstB, mq_h1, mq_h2, mq_h3]; done) | (simp [kstB, mq_h1, mq_h2]; done) | (simp [kstB, mq_h1]; done) | (simp_all [kstB]; done)))) ⟨?_, by assumption, by dsimp only; omega, by dsimp only; omega, ?_, hD.2.2.2.1, hD.2.2.2.2.1, allLt_left hD.2.2.2.2.2⟩
      · have hge : c.b ≥ (c.cn.length : Int) := by first | assumption | omega
        rw [← hsc, drop_at hv]
        show scan _ _ _ _ _ = if k = 32 then _ else _
        rw [if_neg hk1, if_pos hk, if_pos hge]
        dsimp only
        rw [flat_zeros]
      · have hge : c.b ≥ (c.cn.length : Int) := by first | assumption | omega
        dsimp only
        rw [flat_zeros, List.length_set, List.length_append, List.length_replicate]
        omega
    · -- a tab within the list
      rename ((_ == Str.ofString " ") = false) => hs1
      rename ((_ == Str.ofString "\t") = true) => hs2
      have hk1 := chr_sp' hs1
      have hk := chr_tab hs2
      refine lp_end ⟨c.n + 1, c.nt + 1, 0, _, _, _, c.ca, _, c.k, c.cn.set c.b.toNat (c.cn.getD c.b.toNat 0 + 1)⟩ (by k_asm) (by k_asm) (fun p hp => in_mem1 hp) (fun p hp => in_mem2 hp) (in_off2 hoff) (List.forall_mem_cons.mpr ⟨by with_unfolding_all rfl, List.forall_mem_cons.mpr ⟨by with_unfolding_all rfl, List.forall_mem_cons.mpr ⟨by with_unfolding_all rfl, List.forall_mem_cons.mpr ⟨by with_unfolding_all rfl, List.forall_mem_nil _⟩⟩⟩⟩) (by ((intro mq_z mq_h1 mq_h2 mq_h3; (try simp only [List.forall_mem_cons] at mq_h2); first | (simp [kstB, mq_h1, mq_h2, mq_h3]; done) | (simp [kstB, mq_h1, mq_h2]; done) | (simp [kstB, mq_h1]; done) | (simp_all [kstB]; done)))) ⟨?_, by assumption, by dsimp only; omega, by dsimp only; omega, ?_, hx1, hx2, hx3⟩
      · have hge : ¬ c.b ≥ (c.cn.length : Int) := by first | assumption | omega
        rw [← hsc, drop_at hv]
        show scan _ _ _ _ _ = if k = 32 then _ else _
        rw [if_neg hk1, if_pos hk, if_neg hge]
      · dsimp only
        rw [List.length_set]
        omega
    · -- another sign: the loop is left
      rename ((_ == Str.ofString " ") = false) => hs1
      rename ((_ == Str.ofString "\t") = false) => hs2
      have hk1 := chr_sp' hs1
      have hk2 := chr_tab' hs2
      obtain ⟨tl, hN, hO, hW⟩ := init_end (w := w) (cn := c.cn) (by k_asm) (fun p hp => List.mem_append.mpr (.inl hp)) l1 l2 (by omega) (by omega) hints (by omega) hb0 (by omega)
      refine hret _ tl _ _ (by k_asm) hN (fun q hq p hp => Nat.ne_of_lt (hO q hq p hp)) ⟨c.n, c.nt, c.b, c.cn, ?_, hW⟩
      rw [← hsc, drop_at hv]
      show (if k = 32 then _ else _) = _
      rw [if_neg hk1, if_neg hk2]
  · intro c u h' tk' hP' F' N'
    have hsc := hP'.1
    have hints := hP'.2.1
    have hb0 := hP'.2.2.1
    have hb1 := hP'.2.2.2.1
    have hcl := hP'.2.2.2.2.1
    have hx1 := hP'.2.2.2.2.2.1
    have hx2 := hP'.2.2.2.2.2.2.1
    have hx3 := hP'.2.2.2.2.2.2.2
    replace hx1 := ltN hx1
    replace hx2 := ltN hx2
    have hvl : c.vs.length ≤ 1000 := by have := hints.length; omega
    try k_fold
    (repeat' (first | (k_unfold; (try dsimp only)) | (k_end; wrow_close) | ((with_reducible show wpAny _ _ (execs (_ :: _) _) _ _ (Shared.mk _ _ _ (_ + 1) _)); (with_reducible refine toks_cut ?_); intro _) | ((first | ((with_reducible show wpAny _ _ (newTuple _) _ _ _); ((k_here; k_dflt (refine' kup_newTuple ?hqF ?hqN ?_ ?hqz; (case hqF | hqN => k_asm); (case hqz => kmk_size)); intro _ _ _ _ hq_l1; (try k_lt hq_l1); (try k_sweep)))) | ((k_here; (with_reducible show wpAny _ _ (call (Value.type _) [Value.ref _]) _ _ _); k_dflt (refine' kde_tupleOf ?hqk1 ?hqk2 ?hqk3 ?hqk4 ?hqk5 ?_; (case hqk1 | hqk2 => k_asm); (case hqk3 => exact News.isList (by k_asm) (by k_mem)); (case hqk4 => (simp only [List.size_toArray]; omega)); (case hqk5 => exact rfl); k_whole); intro _ _ _ _ hq_l1; (try k_lt hq_l1); (try k_sweep))) | ((with_reducible show wpAny _ _ (subscriptTail _ _ (Value.ref _) _) _ _ _); (first | ((k_here; (with_reducible show wpAny _ _ (subscriptTail _ _ (Value.ref _) (Value.int _ _)) _ _ _); k_dflt (refine' item_listM ?hqk1 ?hqk2 ?hqk3 ?hqk4 ?hqk5 ?hqk6 ?_; (case hqk1 => k_asm); (case hqk2 => k_mem); (case hqk3 => assumption); (case hqk4 | hqk5 | hqk6 => omega)); k_whole; intro _)) | ((k_here; (with_reducible show wpAny _ _ (subscriptTail _ _ (Value.ref _) (Value.int _ _)) _ _ _); k_dflt (refine' item_tupM ?hqk1 ?hqk2 ?hqk3 ?hqk4 ?hqk5 ?hqk6 ?_; (case hqk1 => k_asm); (case hqk2 => k_mem); (case hqk3 => assumption); (case hqk4 | hqk5 | hqk6 => omega)); k_whole; intro _)))) | ((with_reducible show wpAny _ _ (call (Value.builtin _) _) _ _ _); (first | ((k_here; (with_reducible show wpAny _ _ (call (Value.builtin "len") [Value.ref _]) _ _ _); k_dflt (refine' len_tupM ?hqk1 ?hqk2 ?hqk3 ?hqk4 ?_; (case hqk1 => k_asm); (case hqk2 => k_mem); (case hqk3 => exact IntsAre.length (by assumption)); (case hqk4 => omega)); k_whole)) | ((k_here; (with_reducible show wpAny _ _ (call (Value.builtin "len") [Value.ref _]) _ _ _); k_dflt (refine' len_listM ?hqk1 ?hqk2 ?hqk3 ?hqk4 ?_; (case hqk1 => k_asm); (case hqk2 => k_mem); (case hqk3 => exact IntsAre.length (by assumption)); (case hqk4 => omega)); k_whole)))))) | ((fail_if_success with_reducible (first | show wpAny _ _ (exec (Stmt.For _ _ _ _ _) _) _ _ _ | show wpAny _ _ (pyIter _) _ _ _)); first | walk1 | (dsimp only; walk1)) | (leave1; try dsimp only) | fail))
    obtain ⟨tl, hN, hO, hW⟩ := init_end (w := w) (cn := c.cn) (by k_asm) (fun p hp => hp) l1 l2 (by omega) (by omega) hints (by omega) hb0 (by omega)
    refine hret _ tl _ _ (by k_asm) hN (fun q hq p hp => Nat.ne_of_lt (hO q hq p hp)) ⟨c.n, c.nt, c.b, c.cn, ?_, hW⟩
    rw [← hsc, List.drop_of_length_le (by simp)]
    rfl
def rowS (n : Int) : Str := Txt.mul (Str.ofString " ") n ++ Str.ofString "\t"
def letS (l : Int) : Str := if l = 0 then Str.ofString "a" else if l = 1 then Str.ofString "b" else Str.ofString "c"
theorem cnt_nonneg (ls : List Int) (k : Int) : 0 ≤ cnt ls k := by unfold cnt; omega
theorem cnt_le (ls : List Int) (k : Int) : cnt ls k ≤ (ls.length : Int) := by
  unfold cnt
  have := List.length_filter_le (fun x => decide (x = k)) ls
  omega
theorem cnt_le6 {ls : List Int} (h : ls.length = 6) (k : Int) : cnt ls k ≤ 6 := by have := cnt_le ls k; omega
theorem strsAre_app : ∀ {vs ws : List Value} {xs ys : List Str}, StrsAre vs xs → StrsAre ws ys → StrsAre (vs ++ ws) (xs ++ ys)
  | _, _, _, _, .nil, h => h
  | _, _, _, _, .cons y t r, h => .cons y t (strsAre_app r h)
theorem codes_app (x y : Str) : (x ++ y).cps.toList = x.cps.toList ++ y.cps.toList := by
  show (x.cps ++ y.cps).toList = _
  simp
theorem ofS_empty : Str.ofString "" = ⟨#[]⟩ := by decide +kernel
theorem codes_join (l : List Str) : (Txt.join (Str.ofString "") l).cps.toList = (l.map (fun s => s.cps.toList)).flatten := by
  rw [ofS_empty]
  cases l with
  | nil => rfl
  | cons a r =>
    show ((r.foldl (fun acc (p : Str) => acc ++ (#[] : Array Nat) ++ p.cps) a.cps).toList) = _
    have key : ∀ (r : List Str) (acc : Array Nat), (r.foldl (fun acc (p : Str) => acc ++ (#[] : Array Nat) ++ p.cps) acc).toList = acc.toList ++ (r.map (fun s => s.cps.toList)).flatten := by
      intro r
      induction r with
      | nil => intro acc; simp
      | cons b r ih => intro acc; rw [List.foldl_cons, ih]; simp
    rw [key]
    simp
theorem codes_mul (n : Int) (h : 0 ≤ n) : (Txt.mul (Str.ofString " ") n).cps.toList = List.replicate n.toNat 32 := by
  unfold Txt.mul
  have e : Str.ofString " " = ⟨#[32]⟩ := by decide +kernel
  by_cases h1 : n < 1
  · rw [if_pos h1]
    have : n = 0 := by omega
    subst this
    rfl
  · rw [if_neg h1]
    by_cases h2 : n = 1
    · subst h2
      rw [if_pos (by rfl), e]
      rfl
    · rw [if_neg (by rw [e]; simp [h2]; decide), e]
      have key : ∀ (k : Nat) (acc : Array Nat), ((List.replicate k (#[32] : Array Nat)).foldl (· ++ ·) acc).toList = acc.toList ++ List.replicate k 32 := by
        intro k
        induction k with
        | zero => intro acc; simp
        | succ k ih => intro acc; rw [List.replicate_succ, List.foldl_cons, ih]; simp [List.replicate_succ]
      show ((List.replicate n.toNat (#[32] : Array Nat)).foldl (· ++ ·) #[]).toList = _
      rw [key]
      simp
def letC (l : Int) : Nat := if l = 0 then 97 else if l = 1 then 98 else 99
theorem codes_let (l : Int) : (letS l).cps.toList = [letC l] := by
  unfold letS letC
  split
  · decide +kernel
  · split <;> decide +kernel
theorem codes_row (n : Int) (h : 0 ≤ n) : (rowS n).cps.toList = List.replicate n.toNat 32 ++ [9] := by
  unfold rowS
  rw [codes_app, codes_mul n h]
  have : (Str.ofString "\t").cps.toList = [9] := by decide +kernel
  rw [this]
/-- the signs of a lead's text -/
def leadC (c0 c1 c2 : Nat) (mo lt : List Nat) : List Nat := List.replicate c0 32 ++ [9] ++ (List.replicate c1 32 ++ [9]) ++ (List.replicate c2 32 ++ [9]) ++ mo ++ lt ++ [32, 9]
def leadT (ls : List Int) (mo : Str) : Str := Txt.join (Str.ofString "") [rowS (cnt ls 0), rowS (cnt ls 1), rowS (cnt ls 2)] ++ mo ++ Txt.join (Str.ofString "") (ls.map letS) ++ Str.ofString " \t"
theorem codes_lead (ls : List Int) (mo : Str) : (leadT ls mo).cps.toList = leadC (cnt ls 0).toNat (cnt ls 1).toNat (cnt ls 2).toNat mo.cps.toList (ls.map letC) := by
  unfold leadT leadC
  rw [codes_app, codes_app, codes_app, codes_join, codes_join]
  have e : (Str.ofString " \t").cps.toList = [32, 9] := by decide +kernel
  have e2 : ((ls.map letS).map (fun s => s.cps.toList)).flatten = ls.map letC := by
    rw [List.map_map]
    induction ls with
    | nil => rfl
    | cons l r ih => simp only [List.map_cons, List.flatten_cons, ih, Function.comp, codes_let]; rfl
  rw [e, e2]
  simp only [List.map_cons, List.map_nil, List.flatten_cons, List.flatten_nil, codes_row _ (cnt_nonneg ls _), List.append_nil, List.append_assoc]
theorem len_of_codes (x : Str) : x.length = x.cps.toList.length := by simp [Str.length]
theorem leadC_length (c0 c1 c2 : Nat) (mo lt : List Nat) : (leadC c0 c1 c2 mo lt).length = c0 + c1 + c2 + 5 + mo.length + lt.length := by
  unfold leadC
  simp only [List.length_append, List.length_replicate, List.length_cons, List.length_nil]
  omega
theorem leadC_ascii {c0 c1 c2 : Nat} {mo lt : List Nat} (h1 : ∀ k ∈ mo, k < 128) (h2 : ∀ k ∈ lt, k < 128) : ∀ k ∈ leadC c0 c1 c2 mo lt, k < 128 := by
  intro k hk
  unfold leadC at hk
  simp only [List.mem_append, List.mem_replicate, List.mem_cons, List.not_mem_nil, or_false] at hk
  rcases hk with ((((h | h) | h) | h) | h) | h
  all_goals first | (rcases h with h | h <;> omega) | exact h1 k h | exact h2 k h | omega
theorem letC_lt (l : Int) : letC l < 128 := by unfold letC; split <;> (try split) <;> omega
theorem lead_ct (w : World) (mean : ExcName → Option Value) (mg mb : Str → Option Value) (v : Value) (ls : List Int) (mo : Str) (tm : Tok) (hasc : mo.cps.all (· < 128) = true) (hlen : mo.cps.size ≤ 1) (hl6 : ls.length = 6) (hl3 : ∀ l ∈ ls, 0 ≤ l ∧ l < 3) :
   Ct w mean mg mb 125 3 [v, .str mo tm] (fun news => IsWord news v ls)
    (fun news tl r => ∃ n nt b cn, scan (leadC (cnt ls 0).toNat (cnt ls 1).toNat (cnt ls 2).toNat mo.cps.toList (ls.map letC)) 0 0 0 [] = (n, nt, b, cn) ∧ Ws w tl r n nt b cn) := by
  unfold Ct
  k_fill
  intro dp un gd cs' cs a ccd cl outer A₀ base h₀ L m news s Q E B F X N T hk hP hd hu hret
  obtain ⟨aw, vs, nw, rfl, hw, hls⟩ := id hP
  refine wpAny_call ?_
  k_dflt (((refine' code_defC ?k1 ?k2 ?k3 ?k4 ?k5 ?kA ?kF ?kK ?k6 ?k7 ?k8 ?k9 ?kB ?kD ?_ ?c2 ?c3 ?c4; (case kA | kF => exact rfl); (case kK => assumption); (case k1 | k2 | k3 | k4 | k5 => k_asm); (case k6 | k7 => k_is); (case k8 => ktr_room); (case k9 => exact BindsTo.of_eq rfl); (case kB => exact rfl); (case kD => decide +kernel); (case c2 | c3 | c4 => exact rfl); k_whole; intro g' L' mq_hp mq_tkp cells' FG' mq_Fp mq_Np Y' B' X' T' mq_l1; (try k_lt mq_l1); k_cells Y'; (try simp only [List.cons_append, List.nil_append] at mq_Np); (try dsimp only); (try k_fold))))
  (repeat' (first | (k_unfold; (try dsimp only)) | (k_end; wrow_close) | ((with_reducible show wpAny _ _ (execs (_ :: _) _) _ _ (Shared.mk _ _ _ (_ + 1) _)); (with_reducible refine toks_cut ?_); intro _) | ((first | ((with_reducible show wpAny _ _ (call (Value.ref _) _) _ _ _); (first | ((k_here; (with_reducible show wpAny _ _ (call (Value.ref 76) _) _ _ _); k_dflt (refine' ct_use (init_ct _ _ _ _ _ _ ?hqh1 ?hqh2) ?kB ?kF ?kX ?kN ?kT ?kk ?kP ?kd ?ku ?_; (case hqh1 | hqh2 => assumption); (case kB | kF | kX | kN | kT => k_asm); (case kk => first | exact rfl | assumption); (case kP => exact trivial); (case kd | ku => (((try dsimp only [ktrTop, Around.deeper, Around.in1] at *); (first | lia | omega)))); k_whole; intro _ _ _ _ _ _ _ _; (try dsimp only); (try k_sweep); (try k_fold)))) | ((k_here; (with_reducible show wpAny _ _ (call (Value.ref 108) _) _ _ _); k_dflt (refine' ct_useI (countOf_ct _ _ _ _ _ _ _ _ _ _) ?kB ?kF ?kX ?kN ?kT ?kk ?kP ?kd ?ku ?_; (((case kB | kF | kX | kN | kT => k_asm); (case kk => first | exact rfl | assumption); (case kP => (first | ((refine ⟨?_, by k_mem⟩; first | assumption | exact IsWord.mono (by assumption) (by (first | exact fun _ h => h | (intro p hp; k_ownIn) | (intro p hp; exact List.mem_append.mpr (.inl hp)) | (intro p hp; exact List.mem_cons_of_mem _ (List.mem_append.mpr (.inl hp))) | (intro p hp; simp only [List.mem_append, List.mem_cons] at *; simp [hp]))))) | (first | exact trivial | assumption | exact Ws.mono (by assumption) (by (first | exact fun _ h => h | (intro p hp; k_ownIn) | (intro p hp; exact List.mem_append.mpr (.inl hp)) | (intro p hp; exact List.mem_cons_of_mem _ (List.mem_append.mpr (.inl hp))) | (intro p hp; simp only [List.mem_append, List.mem_cons] at *; simp [hp])))))); (case kd | ku => (((try dsimp only [ktrTop, Around.deeper, Around.in1] at *); (first | lia | omega)))); k_whole; intro mq_tp mq_hp mq_tkp mq_Fp mq_Np; (try dsimp only); (try k_sweep); (try k_fold)))))))) | ((k_here; (with_reducible show wpAny _ _ (binaryOp Operator.Add (Value.str _ _) (Value.str _ _)) _ _ _); k_dflt (refine' PyProof.Rows.add_str ?_ ?hqsz; (case hqsz => (simp only [Str.length_append, sizeLine_eq]; (first | lia | omega)))); intro _ _)) | ((with_reducible show wpAny _ _ (subscriptTail _ _ (Value.ref _) _) _ _ _); (first | ((k_here; (with_reducible show wpAny _ _ (subscriptTail _ _ (Value.ref _) (Value.int 0 _)) _ _ _); k_dflt (refine' item_at0 ?hqk1 ?hqk2 ?_; (case hqk1 => k_asm); (case hqk2 => k_mem)); k_whole)) | ((k_here; (with_reducible show wpAny _ _ (subscriptTail _ _ (Value.ref _) (Value.int _ _)) _ _ _); k_dflt (refine' item_listM ?hqk1 ?hqk2 ?hqk3 ?hqk4 ?hqk5 ?hqk6 ?_; (case hqk1 => k_asm); (case hqk2 => k_mem); (case hqk3 => assumption); (case hqk4 | hqk5 | hqk6 => (first | lia | omega))); k_whole; intro _)) | ((k_here; (with_reducible show wpAny _ _ (subscriptTail _ _ (Value.ref _) (Value.int _ _)) _ _ _); k_dflt (refine' item_tupM ?hqk1 ?hqk2 ?hqk3 ?hqk4 ?hqk5 ?hqk6 ?_; (case hqk1 => k_asm); (case hqk2 => k_mem); (case hqk3 => assumption); (case hqk4 | hqk5 | hqk6 => (first | lia | omega))); k_whole; intro _)))) | ((with_reducible show wpAny _ _ (call (Value.builtin _) _) _ _ _); (first | ((k_here; (with_reducible show wpAny _ _ (call (Value.builtin "str.join") [Value.str _ _, Value.ref _]) _ _ _); k_dflt (refine' join_listW ?hqk1 ?hqk2 ?hqk3 ?hqk4 ?_; (case hqk1 => exact News.isList (by k_asm) (by k_mem)); (case hqk2 => assumption); (case hqk3 => decide +kernel); (case hqk4 => assumption)); intro _ _)) | ((k_here; (with_reducible show wpAny _ _ (call (Value.builtin "len") [Value.ref _]) _ _ _); k_dflt (refine' len_tupM ?hqk1 ?hqk2 ?hqk3 ?hqk4 ?_; (case hqk1 => k_asm); (case hqk2 => k_mem); (case hqk3 => exact IntsAre.length (by assumption)); (case hqk4 => (first | lia | omega))); k_whole)) | ((k_here; (with_reducible show wpAny _ _ (call (Value.builtin "len") [Value.ref _]) _ _ _); k_dflt (refine' len_listM ?hqk1 ?hqk2 ?hqk3 ?hqk4 ?_; (case hqk1 => k_asm); (case hqk2 => k_mem); (case hqk3 => exact IntsAre.length (by assumption)); (case hqk4 => (first | lia | omega))); k_whole)))) | ((with_reducible show wpAny _ _ (newTuple _) _ _ _); ((k_here; k_dflt (refine' kup_newTuple ?hqF ?hqN ?_ ?hqz; (case hqF | hqN => k_asm); (case hqz => kmk_size)); intro _ _ _ _ hq_l1; (try k_lt hq_l1); (try k_sweep)))) | ((k_here; (with_reducible show wpAny _ _ (call (Value.type _) [Value.ref _]) _ _ _); k_dflt (refine' kde_tupleOf ?hqk1 ?hqk2 ?hqk3 ?hqk4 ?hqk5 ?_; (case hqk1 | hqk2 => k_asm); (case hqk3 => exact News.isList (by k_asm) (by k_mem)); (case hqk4 => (simp only [List.size_toArray]; (first | lia | omega))); (case hqk5 => exact rfl); k_whole); intro _ _ _ _ hq_l1; (try k_lt hq_l1); (try k_sweep))))) | ((fail_if_success with_reducible (first | show wpAny _ _ (exec (Stmt.For _ _ _ _ _) _) _ _ _ | show wpAny _ _ (pyIter _) _ _ _ | show wpAny _ _ (exec (Stmt.Assign _ (Expr.ListComp _ _ _ _) _) _) _ _ _ | show wpAny _ _ (eval (Expr.ListComp _ _ _ _) _) _ _ _ | show LCg.CompSrc _ _ _ _ _ _ _ _ _ _ _ _ _ _ | show LCg.CompEnd _ _ _ _ _ _ _ _ _ _ _ _ _ _)); first | walk1 | (dsimp only; walk1)) | (leave1; try dsimp only) | fail))
  k_dflt (refine LCg.Assign_ListComp_U (F₀ := by k_asm) (by rfl) (by with_unfolding_all rfl) (by rfl) (by decide) (by rfl) (by decide) (by rfl) (by rfl) (by rfl) ?_)
  (repeat' (first | (k_unfold; (try dsimp only)) | (k_end; wrow_close) | ((with_reducible show wpAny _ _ (execs (_ :: _) _) _ _ (Shared.mk _ _ _ (_ + 1) _)); (with_reducible refine toks_cut ?_); intro _) | ((first | ((with_reducible show wpAny _ _ (call (Value.ref _) _) _ _ _); (first | ((k_here; (with_reducible show wpAny _ _ (call (Value.ref 76) _) _ _ _); k_dflt (refine' ct_use (init_ct _ _ _ _ _ _ ?hqh1 ?hqh2) ?kB ?kF ?kX ?kN ?kT ?kk ?kP ?kd ?ku ?_; (case hqh1 | hqh2 => assumption); (case kB | kF | kX | kN | kT => k_asm); (case kk => first | exact rfl | assumption); (case kP => exact trivial); (case kd | ku => (((try dsimp only [ktrTop, Around.deeper, Around.in1] at *); (first | lia | omega)))); k_whole; intro _ _ _ _ _ _ _ _; (try dsimp only); (try k_sweep); (try k_fold)))) | ((k_here; (with_reducible show wpAny _ _ (call (Value.ref 108) _) _ _ _); k_dflt (refine' ct_useI (countOf_ct _ _ _ _ _ _ _ _ _ _) ?kB ?kF ?kX ?kN ?kT ?kk ?kP ?kd ?ku ?_; (((case kB | kF | kX | kN | kT => k_asm); (case kk => first | exact rfl | assumption); (case kP => (first | ((refine ⟨?_, by k_mem⟩; first | assumption | exact IsWord.mono (by assumption) (by (first | exact fun _ h => h | (intro p hp; k_ownIn) | (intro p hp; exact List.mem_append.mpr (.inl hp)) | (intro p hp; exact List.mem_cons_of_mem _ (List.mem_append.mpr (.inl hp))) | (intro p hp; simp only [List.mem_append, List.mem_cons] at *; simp [hp]))))) | (first | exact trivial | assumption | exact Ws.mono (by assumption) (by (first | exact fun _ h => h | (intro p hp; k_ownIn) | (intro p hp; exact List.mem_append.mpr (.inl hp)) | (intro p hp; exact List.mem_cons_of_mem _ (List.mem_append.mpr (.inl hp))) | (intro p hp; simp only [List.mem_append, List.mem_cons] at *; simp [hp])))))); (case kd | ku => (((try dsimp only [ktrTop, Around.deeper, Around.in1] at *); (first | lia | omega)))); k_whole; intro mq_tp mq_hp mq_tkp mq_Fp mq_Np; (try dsimp only); (try k_sweep); (try k_fold)))))))) | ((k_here; (with_reducible show wpAny _ _ (binaryOp Operator.Add (Value.str _ _) (Value.str _ _)) _ _ _); k_dflt (refine' PyProof.Rows.add_str ?_ ?hqsz; (case hqsz => (simp only [Str.length_append, sizeLine_eq]; (first | lia | omega)))); intro _ _)) | ((with_reducible show wpAny _ _ (subscriptTail _ _ (Value.ref _) _) _ _ _); (first | ((k_here; (with_reducible show wpAny _ _ (subscriptTail _ _ (Value.ref _) (Value.int 0 _)) _ _ _); k_dflt (refine' item_at0 ?hqk1 ?hqk2 ?_; (case hqk1 => k_asm); (case hqk2 => k_mem)); k_whole)) | ((k_here; (with_reducible show wpAny _ _ (subscriptTail _ _ (Value.ref _) (Value.int _ _)) _ _ _); k_dflt (refine' item_listM ?hqk1 ?hqk2 ?hqk3 ?hqk4 ?hqk5 ?hqk6 ?_; (case hqk1 => k_asm); (case hqk2 => k_mem); (case hqk3 => assumption); (case hqk4 | hqk5 | hqk6 => (first | lia | omega))); k_whole; intro _)) | ((k_here; (with_reducible show wpAny _ _ (subscriptTail _ _ (Value.ref _) (Value.int _ _)) _ _ _); k_dflt (refine' item_tupM ?hqk1 ?hqk2 ?hqk3 ?hqk4 ?hqk5 ?hqk6 ?_; (case hqk1 => k_asm); (case hqk2 => k_mem); (case hqk3 => assumption); (case hqk4 | hqk5 | hqk6 => (first | lia | omega))); k_whole; intro _)))) | ((with_reducible show wpAny _ _ (call (Value.builtin _) _) _ _ _); (first | ((k_here; (with_reducible show wpAny _ _ (call (Value.builtin "str.join") [Value.str _ _, Value.ref _]) _ _ _); k_dflt (refine' join_listW ?hqk1 ?hqk2 ?hqk3 ?hqk4 ?_; (case hqk1 => exact News.isList (by k_asm) (by k_mem)); (case hqk2 => assumption); (case hqk3 => decide +kernel); (case hqk4 => assumption)); intro _ _)) | ((k_here; (with_reducible show wpAny _ _ (call (Value.builtin "len") [Value.ref _]) _ _ _); k_dflt (refine' len_tupM ?hqk1 ?hqk2 ?hqk3 ?hqk4 ?_; (case hqk1 => k_asm); (case hqk2 => k_mem); (case hqk3 => exact IntsAre.length (by assumption)); (case hqk4 => (first | lia | omega))); k_whole)) | ((k_here; (with_reducible show wpAny _ _ (call (Value.builtin "len") [Value.ref _]) _ _ _); k_dflt (refine' len_listM ?hqk1 ?hqk2 ?hqk3 ?hqk4 ?_; (case hqk1 => k_asm); (case hqk2 => k_mem); (case hqk3 => exact IntsAre.length (by assumption)); (case hqk4 => (first | lia | omega))); k_whole)))) | ((with_reducible show wpAny _ _ (newTuple _) _ _ _); ((k_here; k_dflt (refine' kup_newTuple ?hqF ?hqN ?_ ?hqz; (case hqF | hqN => k_asm); (case hqz => kmk_size)); intro _ _ _ _ hq_l1; (try k_lt hq_l1); (try k_sweep)))) | ((k_here; (with_reducible show wpAny _ _ (call (Value.type _) [Value.ref _]) _ _ _); k_dflt (refine' kde_tupleOf ?hqk1 ?hqk2 ?hqk3 ?hqk4 ?hqk5 ?_; (case hqk1 | hqk2 => k_asm); (case hqk3 => exact News.isList (by k_asm) (by k_mem)); (case hqk4 => (simp only [List.size_toArray]; (first | lia | omega))); (case hqk5 => exact rfl); k_whole); intro _ _ _ _ hq_l1; (try k_lt hq_l1); (try k_sweep))))) | ((fail_if_success with_reducible (first | show wpAny _ _ (exec (Stmt.For _ _ _ _ _) _) _ _ _ | show wpAny _ _ (pyIter _) _ _ _ | show wpAny _ _ (exec (Stmt.Assign _ (Expr.ListComp _ _ _ _) _) _) _ _ _ | show wpAny _ _ (eval (Expr.ListComp _ _ _ _) _) _ _ _ | show LCg.CompSrc _ _ _ _ _ _ _ _ _ _ _ _ _ _ | show LCg.CompEnd _ _ _ _ _ _ _ _ _ _ _ _ _ _)); first | walk1 | (dsimp only; walk1)) | (leave1; try dsimp only) | fail))
  rename Fr _ _ _ _ => lF
  rename News _ _ _ _ => lN
  with_unfolding_all refine LCg.CompSrc.range (by rfl) lF lN (by assumption) (by decide) (rangeSize_nat _ _) (by decide) ?_
  intro g1
  refine cr_inv (fun i ys nw' => nw' = _ ∧ StrsAre ys ((List.range i).map fun (k : Nat) => rowS (cnt ls (k : Int)))) ⟨rfl, .nil⟩ ?_ ?_
  · intro i v I oI C oC D m₂ ys nw' h tk E' hi hv hJ hC hx F1 N1 off ne
    obtain ⟨t, rfl⟩ := hv
    obtain ⟨rfl, hJ⟩ := hJ
    have hc1 := cnt_nonneg ls (0 + (i : Int))
    have hc2 := cnt_le ls (0 + (i : Int))
    try k_fold
    (repeat' (first | (k_unfold; (try dsimp only)) | (k_end; wrow_close) | ((with_reducible show wpAny _ _ (execs (_ :: _) _) _ _ (Shared.mk _ _ _ (_ + 1) _)); (with_reducible refine toks_cut ?_); intro _) | ((first | ((with_reducible show wpAny _ _ (call (Value.ref _) _) _ _ _); (first | ((k_here; (with_reducible show wpAny _ _ (call (Value.ref 76) _) _ _ _); k_dflt (refine' ct_use (init_ct _ _ _ _ _ _ ?hqh1 ?hqh2) ?kB ?kF ?kX ?kN ?kT ?kk ?kP ?kd ?ku ?_; (case hqh1 | hqh2 => assumption); (case kB | kF | kX | kN | kT => k_asm); (case kk => first | exact rfl | assumption); (case kP => exact trivial); (case kd | ku => (((try dsimp only [ktrTop, Around.deeper, Around.in1] at *); (first | lia | omega)))); k_whole; intro _ _ _ _ _ _ _ _; (try dsimp only); (try k_sweep); (try k_fold)))) | ((k_here; (with_reducible show wpAny _ _ (call (Value.ref 108) _) _ _ _); k_dflt (refine' ct_useI (countOf_ct _ _ _ _ _ _ _ _ _ _) ?kB ?kF ?kX ?kN ?kT ?kk ?kP ?kd ?ku ?_; (((case kB | kF | kX | kN | kT => k_asm); (case kk => first | exact rfl | assumption); (case kP => (first | ((refine ⟨?_, by k_mem⟩; first | assumption | exact IsWord.mono (by assumption) (by (first | exact fun _ h => h | (intro p hp; k_ownIn) | (intro p hp; exact List.mem_append.mpr (.inl hp)) | (intro p hp; exact List.mem_cons_of_mem _ (List.mem_append.mpr (.inl hp))) | (intro p hp; simp only [List.mem_append, List.mem_cons] at *; simp [hp]))))) | (first | exact trivial | assumption | exact Ws.mono (by assumption) (by (first | exact fun _ h => h | (intro p hp; k_ownIn) | (intro p hp; exact List.mem_append.mpr (.inl hp)) | (intro p hp; exact List.mem_cons_of_mem _ (List.mem_append.mpr (.inl hp))) | (intro p hp; simp only [List.mem_append, List.mem_cons] at *; simp [hp])))))); (case kd | ku => (((try dsimp only [ktrTop, Around.deeper, Around.in1] at *); (first | lia | omega)))); k_whole; intro mq_tp mq_hp mq_tkp mq_Fp mq_Np; (try dsimp only); (try k_sweep); (try k_fold)))))))) | ((k_here; (with_reducible show wpAny _ _ (binaryOp Operator.Add (Value.str _ _) (Value.str _ _)) _ _ _); k_dflt (refine' PyProof.Rows.add_str ?_ ?hqsz; (case hqsz => (simp only [Str.length_append, sizeLine_eq]; (first | lia | omega)))); intro _ _)) | ((with_reducible show wpAny _ _ (subscriptTail _ _ (Value.ref _) _) _ _ _); (first | ((k_here; (with_reducible show wpAny _ _ (subscriptTail _ _ (Value.ref _) (Value.int 0 _)) _ _ _); k_dflt (refine' item_at0 ?hqk1 ?hqk2 ?_; (case hqk1 => k_asm); (case hqk2 => k_mem)); k_whole)) | ((k_here; (with_reducible show wpAny _ _ (subscriptTail _ _ (Value.ref _) (Value.int _ _)) _ _ _); k_dflt (refine' item_listM ?hqk1 ?hqk2 ?hqk3 ?hqk4 ?hqk5 ?hqk6 ?_; (case hqk1 => k_asm); (case hqk2 => k_mem); (case hqk3 => assumption); (case hqk4 | hqk5 | hqk6 => (first | lia | omega))); k_whole; intro _)) | ((k_here; (with_reducible show wpAny _ _ (subscriptTail _ _ (Value.ref _) (Value.int _ _)) _ _ _); k_dflt (refine' item_tupM ?hqk1 ?hqk2 ?hqk3 ?hqk4 ?hqk5 ?hqk6 ?_; (case hqk1 => k_asm); (case hqk2 => k_mem); (case hqk3 => assumption); (case hqk4 | hqk5 | hqk6 => (first | lia | omega))); k_whole; intro _)))) | ((with_reducible show wpAny _ _ (call (Value.builtin _) _) _ _ _); (first | ((k_here; (with_reducible show wpAny _ _ (call (Value.builtin "str.join") [Value.str _ _, Value.ref _]) _ _ _); k_dflt (refine' join_listW ?hqk1 ?hqk2 ?hqk3 ?hqk4 ?_; (case hqk1 => exact News.isList (by k_asm) (by k_mem)); (case hqk2 => assumption); (case hqk3 => decide +kernel); (case hqk4 => assumption)); intro _ _)) | ((k_here; (with_reducible show wpAny _ _ (call (Value.builtin "len") [Value.ref _]) _ _ _); k_dflt (refine' len_tupM ?hqk1 ?hqk2 ?hqk3 ?hqk4 ?_; (case hqk1 => k_asm); (case hqk2 => k_mem); (case hqk3 => exact IntsAre.length (by assumption)); (case hqk4 => (first | lia | omega))); k_whole)) | ((k_here; (with_reducible show wpAny _ _ (call (Value.builtin "len") [Value.ref _]) _ _ _); k_dflt (refine' len_listM ?hqk1 ?hqk2 ?hqk3 ?hqk4 ?_; (case hqk1 => k_asm); (case hqk2 => k_mem); (case hqk3 => exact IntsAre.length (by assumption)); (case hqk4 => (first | lia | omega))); k_whole)))) | ((with_reducible show wpAny _ _ (newTuple _) _ _ _); ((k_here; k_dflt (refine' kup_newTuple ?hqF ?hqN ?_ ?hqz; (case hqF | hqN => k_asm); (case hqz => kmk_size)); intro _ _ _ _ hq_l1; (try k_lt hq_l1); (try k_sweep)))) | ((k_here; (with_reducible show wpAny _ _ (call (Value.type _) [Value.ref _]) _ _ _); k_dflt (refine' kde_tupleOf ?hqk1 ?hqk2 ?hqk3 ?hqk4 ?hqk5 ?_; (case hqk1 | hqk2 => k_asm); (case hqk3 => exact News.isList (by k_asm) (by k_mem)); (case hqk4 => (simp only [List.size_toArray]; (first | lia | omega))); (case hqk5 => exact rfl); k_whole); intro _ _ _ _ hq_l1; (try k_lt hq_l1); (try k_sweep))))) | ((fail_if_success with_reducible (first | show wpAny _ _ (exec (Stmt.For _ _ _ _ _) _) _ _ _ | show wpAny _ _ (pyIter _) _ _ _ | show wpAny _ _ (exec (Stmt.Assign _ (Expr.ListComp _ _ _ _) _) _) _ _ _ | show wpAny _ _ (eval (Expr.ListComp _ _ _ _) _) _ _ _ | show LCg.CompSrc _ _ _ _ _ _ _ _ _ _ _ _ _ _ | show LCg.CompEnd _ _ _ _ _ _ _ _ _ _ _ _ _ _)); first | walk1 | (dsimp only; walk1)) | (leave1; try dsimp only) | fail))
    refine LCg.CompEnd.intro (by k_asm) (by k_asm) _ (fun p hp => List.mem_cons_of_mem _ hp) off trivial ⟨rfl, ?_⟩
    rw [List.range_succ, List.map_append]
    have e : (0 + (i : Int)) = (i : Int) := by (first | lia | omega)
    rw [e]
    exact strsAre_app hJ (.cons _ _ .nil)
  · intro ys nw' hJ
    obtain ⟨rfl, hJ⟩ := hJ
    unfold LCg.FinA
    intro D h tk F1 N1 o1
    have e3 : (List.range (3 - 0 : Int).toNat).map (fun (k : Nat) => rowS (cnt ls (k : Int))) = [rowS (cnt ls 0), rowS (cnt ls 1), rowS (cnt ls 2)] := rfl
    rw [e3] at hJ
    try k_fold
    (repeat' (first | (k_unfold; (try dsimp only)) | (k_end; wrow_close) | ((with_reducible show wpAny _ _ (execs (_ :: _) _) _ _ (Shared.mk _ _ _ (_ + 1) _)); (with_reducible refine toks_cut ?_); intro _) | ((first | ((with_reducible show wpAny _ _ (call (Value.ref _) _) _ _ _); (first | ((k_here; (with_reducible show wpAny _ _ (call (Value.ref 76) _) _ _ _); k_dflt (refine' ct_use (init_ct _ _ _ _ _ _ ?hqh1 ?hqh2) ?kB ?kF ?kX ?kN ?kT ?kk ?kP ?kd ?ku ?_; (case hqh1 | hqh2 => assumption); (case kB | kF | kX | kN | kT => k_asm); (case kk => first | exact rfl | assumption); (case kP => exact trivial); (case kd | ku => (((try dsimp only [ktrTop, Around.deeper, Around.in1] at *); (first | lia | omega)))); k_whole; intro _ _ _ _ _ _ _ _; (try dsimp only); (try k_sweep); (try k_fold)))) | ((k_here; (with_reducible show wpAny _ _ (call (Value.ref 108) _) _ _ _); k_dflt (refine' ct_useI (countOf_ct _ _ _ _ _ _ _ _ _ _) ?kB ?kF ?kX ?kN ?kT ?kk ?kP ?kd ?ku ?_; (((case kB | kF | kX | kN | kT => k_asm); (case kk => first | exact rfl | assumption); (case kP => (first | ((refine ⟨?_, by k_mem⟩; first | assumption | exact IsWord.mono (by assumption) (by (first | exact fun _ h => h | (intro p hp; k_ownIn) | (intro p hp; exact List.mem_append.mpr (.inl hp)) | (intro p hp; exact List.mem_cons_of_mem _ (List.mem_append.mpr (.inl hp))) | (intro p hp; simp only [List.mem_append, List.mem_cons] at *; simp [hp]))))) | (first | exact trivial | assumption | exact Ws.mono (by assumption) (by (first | exact fun _ h => h | (intro p hp; k_ownIn) | (intro p hp; exact List.mem_append.mpr (.inl hp)) | (intro p hp; exact List.mem_cons_of_mem _ (List.mem_append.mpr (.inl hp))) | (intro p hp; simp only [List.mem_append, List.mem_cons] at *; simp [hp])))))); (case kd | ku => (((try dsimp only [ktrTop, Around.deeper, Around.in1] at *); (first | lia | omega)))); k_whole; intro mq_tp mq_hp mq_tkp mq_Fp mq_Np; (try dsimp only); (try k_sweep); (try k_fold)))))))) | ((k_here; (with_reducible show wpAny _ _ (binaryOp Operator.Add (Value.str _ _) (Value.str _ _)) _ _ _); k_dflt (refine' PyProof.Rows.add_str ?_ ?hqsz; (case hqsz => (simp only [Str.length_append, sizeLine_eq]; (first | lia | omega)))); intro _ _)) | ((with_reducible show wpAny _ _ (subscriptTail _ _ (Value.ref _) _) _ _ _); (first | ((k_here; (with_reducible show wpAny _ _ (subscriptTail _ _ (Value.ref _) (Value.int 0 _)) _ _ _); k_dflt (refine' item_at0 ?hqk1 ?hqk2 ?_; (case hqk1 => k_asm); (case hqk2 => k_mem)); k_whole)) | ((k_here; (with_reducible show wpAny _ _ (subscriptTail _ _ (Value.ref _) (Value.int _ _)) _ _ _); k_dflt (refine' item_listM ?hqk1 ?hqk2 ?hqk3 ?hqk4 ?hqk5 ?hqk6 ?_; (case hqk1 => k_asm); (case hqk2 => k_mem); (case hqk3 => assumption); (case hqk4 | hqk5 | hqk6 => (first | lia | omega))); k_whole; intro _)) | ((k_here; (with_reducible show wpAny _ _ (subscriptTail _ _ (Value.ref _) (Value.int _ _)) _ _ _); k_dflt (refine' item_tupM ?hqk1 ?hqk2 ?hqk3 ?hqk4 ?hqk5 ?hqk6 ?_; (case hqk1 => k_asm); (case hqk2 => k_mem); (case hqk3 => assumption); (case hqk4 | hqk5 | hqk6 => (first | lia | omega))); k_whole; intro _)))) | ((with_reducible show wpAny _ _ (call (Value.builtin _) _) _ _ _); (first | ((k_here; (with_reducible show wpAny _ _ (call (Value.builtin "str.join") [Value.str _ _, Value.ref _]) _ _ _); k_dflt (refine' join_listW ?hqk1 ?hqk2 ?hqk3 ?hqk4 ?_; (case hqk1 => exact News.isList (by k_asm) (by k_mem)); (case hqk2 => assumption); (case hqk3 => decide +kernel); (case hqk4 => assumption)); intro _ _)) | ((k_here; (with_reducible show wpAny _ _ (call (Value.builtin "len") [Value.ref _]) _ _ _); k_dflt (refine' len_tupM ?hqk1 ?hqk2 ?hqk3 ?hqk4 ?_; (case hqk1 => k_asm); (case hqk2 => k_mem); (case hqk3 => exact IntsAre.length (by assumption)); (case hqk4 => (first | lia | omega))); k_whole)) | ((k_here; (with_reducible show wpAny _ _ (call (Value.builtin "len") [Value.ref _]) _ _ _); k_dflt (refine' len_listM ?hqk1 ?hqk2 ?hqk3 ?hqk4 ?_; (case hqk1 => k_asm); (case hqk2 => k_mem); (case hqk3 => exact IntsAre.length (by assumption)); (case hqk4 => (first | lia | omega))); k_whole)))) | ((with_reducible show wpAny _ _ (newTuple _) _ _ _); ((k_here; k_dflt (refine' kup_newTuple ?hqF ?hqN ?_ ?hqz; (case hqF | hqN => k_asm); (case hqz => kmk_size)); intro _ _ _ _ hq_l1; (try k_lt hq_l1); (try k_sweep)))) | ((k_here; (with_reducible show wpAny _ _ (call (Value.type _) [Value.ref _]) _ _ _); k_dflt (refine' kde_tupleOf ?hqk1 ?hqk2 ?hqk3 ?hqk4 ?hqk5 ?_; (case hqk1 | hqk2 => k_asm); (case hqk3 => exact News.isList (by k_asm) (by k_mem)); (case hqk4 => (simp only [List.size_toArray]; (first | lia | omega))); (case hqk5 => exact rfl); k_whole); intro _ _ _ _ hq_l1; (try k_lt hq_l1); (try k_sweep))))) | ((fail_if_success with_reducible (first | show wpAny _ _ (exec (Stmt.For _ _ _ _ _) _) _ _ _ | show wpAny _ _ (pyIter _) _ _ _ | show wpAny _ _ (exec (Stmt.Assign _ (Expr.ListComp _ _ _ _) _) _) _ _ _ | show wpAny _ _ (eval (Expr.ListComp _ _ _ _) _) _ _ _ | show LCg.CompSrc _ _ _ _ _ _ _ _ _ _ _ _ _ _ | show LCg.CompEnd _ _ _ _ _ _ _ _ _ _ _ _ _ _)); first | walk1 | (dsimp only; walk1)) | (leave1; try dsimp only) | fail))
    k_dflt (refine LCg.Assign_ListComp_U (F₀ := by k_asm) (by rfl) (by with_unfolding_all rfl) (by rfl) (by decide) (by rfl) (by decide) (by rfl) (by rfl) (by rfl) ?_)
    (repeat' (first | (k_unfold; (try dsimp only)) | (k_end; wrow_close) | ((with_reducible show wpAny _ _ (execs (_ :: _) _) _ _ (Shared.mk _ _ _ (_ + 1) _)); (with_reducible refine toks_cut ?_); intro _) | ((first | ((with_reducible show wpAny _ _ (call (Value.ref _) _) _ _ _); (first | ((k_here; (with_reducible show wpAny _ _ (call (Value.ref 76) _) _ _ _); k_dflt (refine' ct_use (init_ct _ _ _ _ _ _ ?hqh1 ?hqh2) ?kB ?kF ?kX ?kN ?kT ?kk ?kP ?kd ?ku ?_; (case hqh1 | hqh2 => assumption); (case kB | kF | kX | kN | kT => k_asm); (case kk => first | exact rfl | assumption); (case kP => exact trivial); (case kd | ku => (((try dsimp only [ktrTop, Around.deeper, Around.in1] at *); (first | lia | omega)))); k_whole; intro _ _ _ _ _ _ _ _; (try dsimp only); (try k_sweep); (try k_fold)))) | ((k_here; (with_reducible show wpAny _ _ (call (Value.ref 108) _) _ _ _); k_dflt (refine' ct_useI (countOf_ct _ _ _ _ _ _ _ _ _ _) ?kB ?kF ?kX ?kN ?kT ?kk ?kP ?kd ?ku ?_; (((case kB | kF | kX | kN | kT => k_asm); (case kk => first | exact rfl | assumption); (case kP => (first | ((refine ⟨?_, by k_mem⟩; first | assumption | exact IsWord.mono (by assumption) (by (first | exact fun _ h => h | (intro p hp; k_ownIn) | (intro p hp; exact List.mem_append.mpr (.inl hp)) | (intro p hp; exact List.mem_cons_of_mem _ (List.mem_append.mpr (.inl hp))) | (intro p hp; simp only [List.mem_append, List.mem_cons] at *; simp [hp]))))) | (first | exact trivial | assumption | exact Ws.mono (by assumption) (by (first | exact fun _ h => h | (intro p hp; k_ownIn) | (intro p hp; exact List.mem_append.mpr (.inl hp)) | (intro p hp; exact List.mem_cons_of_mem _ (List.mem_append.mpr (.inl hp))) | (intro p hp; simp only [List.mem_append, List.mem_cons] at *; simp [hp])))))); (case kd | ku => (((try dsimp only [ktrTop, Around.deeper, Around.in1] at *); (first | lia | omega)))); k_whole; intro mq_tp mq_hp mq_tkp mq_Fp mq_Np; (try dsimp only); (try k_sweep); (try k_fold)))))))) | ((k_here; (with_reducible show wpAny _ _ (binaryOp Operator.Add (Value.str _ _) (Value.str _ _)) _ _ _); k_dflt (refine' PyProof.Rows.add_str ?_ ?hqsz; (case hqsz => (simp only [Str.length_append, sizeLine_eq]; (first | lia | omega)))); intro _ _)) | ((with_reducible show wpAny _ _ (subscriptTail _ _ (Value.ref _) _) _ _ _); (first | ((k_here; (with_reducible show wpAny _ _ (subscriptTail _ _ (Value.ref _) (Value.int 0 _)) _ _ _); k_dflt (refine' item_at0 ?hqk1 ?hqk2 ?_; (case hqk1 => k_asm); (case hqk2 => k_mem)); k_whole)) | ((k_here; (with_reducible show wpAny _ _ (subscriptTail _ _ (Value.ref _) (Value.int _ _)) _ _ _); k_dflt (refine' item_listM ?hqk1 ?hqk2 ?hqk3 ?hqk4 ?hqk5 ?hqk6 ?_; (case hqk1 => k_asm); (case hqk2 => k_mem); (case hqk3 => assumption); (case hqk4 | hqk5 | hqk6 => (first | lia | omega))); k_whole; intro _)) | ((k_here; (with_reducible show wpAny _ _ (subscriptTail _ _ (Value.ref _) (Value.int _ _)) _ _ _); k_dflt (refine' item_tupM ?hqk1 ?hqk2 ?hqk3 ?hqk4 ?hqk5 ?hqk6 ?_; (case hqk1 => k_asm); (case hqk2 => k_mem); (case hqk3 => assumption); (case hqk4 | hqk5 | hqk6 => (first | lia | omega))); k_whole; intro _)))) | ((with_reducible show wpAny _ _ (call (Value.builtin _) _) _ _ _); (first | ((k_here; (with_reducible show wpAny _ _ (call (Value.builtin "str.join") [Value.str _ _, Value.ref _]) _ _ _); k_dflt (refine' join_listW ?hqk1 ?hqk2 ?hqk3 ?hqk4 ?_; (case hqk1 => exact News.isList (by k_asm) (by k_mem)); (case hqk2 => assumption); (case hqk3 => decide +kernel); (case hqk4 => assumption)); intro _ _)) | ((k_here; (with_reducible show wpAny _ _ (call (Value.builtin "len") [Value.ref _]) _ _ _); k_dflt (refine' len_tupM ?hqk1 ?hqk2 ?hqk3 ?hqk4 ?_; (case hqk1 => k_asm); (case hqk2 => k_mem); (case hqk3 => exact IntsAre.length (by assumption)); (case hqk4 => (first | lia | omega))); k_whole)) | ((k_here; (with_reducible show wpAny _ _ (call (Value.builtin "len") [Value.ref _]) _ _ _); k_dflt (refine' len_listM ?hqk1 ?hqk2 ?hqk3 ?hqk4 ?_; (case hqk1 => k_asm); (case hqk2 => k_mem); (case hqk3 => exact IntsAre.length (by assumption)); (case hqk4 => (first | lia | omega))); k_whole)))) | ((with_reducible show wpAny _ _ (newTuple _) _ _ _); ((k_here; k_dflt (refine' kup_newTuple ?hqF ?hqN ?_ ?hqz; (case hqF | hqN => k_asm); (case hqz => kmk_size)); intro _ _ _ _ hq_l1; (try k_lt hq_l1); (try k_sweep)))) | ((k_here; (with_reducible show wpAny _ _ (call (Value.type _) [Value.ref _]) _ _ _); k_dflt (refine' kde_tupleOf ?hqk1 ?hqk2 ?hqk3 ?hqk4 ?hqk5 ?_; (case hqk1 | hqk2 => k_asm); (case hqk3 => exact News.isList (by k_asm) (by k_mem)); (case hqk4 => (simp only [List.size_toArray]; (first | lia | omega))); (case hqk5 => exact rfl); k_whole); intro _ _ _ _ hq_l1; (try k_lt hq_l1); (try k_sweep))))) | ((fail_if_success with_reducible (first | show wpAny _ _ (exec (Stmt.For _ _ _ _ _) _) _ _ _ | show wpAny _ _ (pyIter _) _ _ _ | show wpAny _ _ (exec (Stmt.Assign _ (Expr.ListComp _ _ _ _) _) _) _ _ _ | show wpAny _ _ (eval (Expr.ListComp _ _ _ _) _) _ _ _ | show LCg.CompSrc _ _ _ _ _ _ _ _ _ _ _ _ _ _ | show LCg.CompEnd _ _ _ _ _ _ _ _ _ _ _ _ _ _)); first | walk1 | (dsimp only; walk1)) | (leave1; try dsimp only) | fail))
    rename Fr _ _ _ _ => lF
    rename News _ _ _ _ => lN
    have hvl : vs.length = 6 := by rw [hls.length, hl6]
    with_unfolding_all refine LCg.CompSrc.ledger (its := vs.toArray) (k := nw) (by rfl) lF lN (by k_mem) (by rw [List.size_toArray, hvl]; decide) ?_
    intro g2
    refine cr_inv (fun i ys2 nw2 => nw2 = _ ∧ StrsAre ys2 ((ls.take i).map letS)) ⟨rfl, .nil⟩ ?_ ?_
    · intro i v I oI C oC D2 m₂ ys2 nw2 h2 tk2 E' hi hv hJ2 hC hx F2 N2 off ne
      obtain ⟨rfl, hJ2⟩ := hJ2
      obtain ⟨a', n', l', t', rfl, hm', hl'⟩ := hls.get (i := i) (by simpa using hv)
      have hr := hl3 l' (List.mem_of_getElem? hl')
      rw [List.take_add_one, hl', Option.toList_some, List.map_append]
      try k_fold
      rcases (by (first | lia | omega) : l' = 0 ∨ l' = 1 ∨ l' = 2) with rfl | rfl | rfl
      all_goals (
        (repeat' (first | (k_unfold; (try dsimp only)) | (k_end; wrow_close) | ((with_reducible show wpAny _ _ (execs (_ :: _) _) _ _ (Shared.mk _ _ _ (_ + 1) _)); (with_reducible refine toks_cut ?_); intro _) | ((first | ((with_reducible show wpAny _ _ (call (Value.ref _) _) _ _ _); (first | ((k_here; (with_reducible show wpAny _ _ (call (Value.ref 76) _) _ _ _); k_dflt (refine' ct_use (init_ct _ _ _ _ _ _ ?hqh1 ?hqh2) ?kB ?kF ?kX ?kN ?kT ?kk ?kP ?kd ?ku ?_; (case hqh1 | hqh2 => assumption); (case kB | kF | kX | kN | kT => k_asm); (case kk => first | exact rfl | assumption); (case kP => exact trivial); (case kd | ku => (((try dsimp only [ktrTop, Around.deeper, Around.in1] at *); (first | lia | omega)))); k_whole; intro _ _ _ _ _ _ _ _; (try dsimp only); (try k_sweep); (try k_fold)))) | ((k_here; (with_reducible show wpAny _ _ (call (Value.ref 108) _) _ _ _); k_dflt (refine' ct_useI (countOf_ct _ _ _ _ _ _ _ _ _ _) ?kB ?kF ?kX ?kN ?kT ?kk ?kP ?kd ?ku ?_; (((case kB | kF | kX | kN | kT => k_asm); (case kk => first | exact rfl | assumption); (case kP => (first | ((refine ⟨?_, by k_mem⟩; first | assumption | exact IsWord.mono (by assumption) (by (first | exact fun _ h => h | (intro p hp; k_ownIn) | (intro p hp; exact List.mem_append.mpr (.inl hp)) | (intro p hp; exact List.mem_cons_of_mem _ (List.mem_append.mpr (.inl hp))) | (intro p hp; simp only [List.mem_append, List.mem_cons] at *; simp [hp]))))) | (first | exact trivial | assumption | exact Ws.mono (by assumption) (by (first | exact fun _ h => h | (intro p hp; k_ownIn) | (intro p hp; exact List.mem_append.mpr (.inl hp)) | (intro p hp; exact List.mem_cons_of_mem _ (List.mem_append.mpr (.inl hp))) | (intro p hp; simp only [List.mem_append, List.mem_cons] at *; simp [hp])))))); (case kd | ku => (((try dsimp only [ktrTop, Around.deeper, Around.in1] at *); (first | lia | omega)))); k_whole; intro mq_tp mq_hp mq_tkp mq_Fp mq_Np; (try dsimp only); (try k_sweep); (try k_fold)))))))) | ((k_here; (with_reducible show wpAny _ _ (binaryOp Operator.Add (Value.str _ _) (Value.str _ _)) _ _ _); k_dflt (refine' PyProof.Rows.add_str ?_ ?hqsz; (case hqsz => (simp only [Str.length_append, sizeLine_eq]; (first | lia | omega)))); intro _ _)) | ((with_reducible show wpAny _ _ (subscriptTail _ _ (Value.ref _) _) _ _ _); (first | ((k_here; (with_reducible show wpAny _ _ (subscriptTail _ _ (Value.ref _) (Value.int 0 _)) _ _ _); k_dflt (refine' item_at0 ?hqk1 ?hqk2 ?_; (case hqk1 => k_asm); (case hqk2 => k_mem)); k_whole)) | ((k_here; (with_reducible show wpAny _ _ (subscriptTail _ _ (Value.ref _) (Value.int _ _)) _ _ _); k_dflt (refine' item_listM ?hqk1 ?hqk2 ?hqk3 ?hqk4 ?hqk5 ?hqk6 ?_; (case hqk1 => k_asm); (case hqk2 => k_mem); (case hqk3 => assumption); (case hqk4 | hqk5 | hqk6 => (first | lia | omega))); k_whole; intro _)) | ((k_here; (with_reducible show wpAny _ _ (subscriptTail _ _ (Value.ref _) (Value.int _ _)) _ _ _); k_dflt (refine' item_tupM ?hqk1 ?hqk2 ?hqk3 ?hqk4 ?hqk5 ?hqk6 ?_; (case hqk1 => k_asm); (case hqk2 => k_mem); (case hqk3 => assumption); (case hqk4 | hqk5 | hqk6 => (first | lia | omega))); k_whole; intro _)))) | ((with_reducible show wpAny _ _ (call (Value.builtin _) _) _ _ _); (first | ((k_here; (with_reducible show wpAny _ _ (call (Value.builtin "str.join") [Value.str _ _, Value.ref _]) _ _ _); k_dflt (refine' join_listW ?hqk1 ?hqk2 ?hqk3 ?hqk4 ?_; (case hqk1 => exact News.isList (by k_asm) (by k_mem)); (case hqk2 => assumption); (case hqk3 => decide +kernel); (case hqk4 => assumption)); intro _ _)) | ((k_here; (with_reducible show wpAny _ _ (call (Value.builtin "len") [Value.ref _]) _ _ _); k_dflt (refine' len_tupM ?hqk1 ?hqk2 ?hqk3 ?hqk4 ?_; (case hqk1 => k_asm); (case hqk2 => k_mem); (case hqk3 => exact IntsAre.length (by assumption)); (case hqk4 => (first | lia | omega))); k_whole)) | ((k_here; (with_reducible show wpAny _ _ (call (Value.builtin "len") [Value.ref _]) _ _ _); k_dflt (refine' len_listM ?hqk1 ?hqk2 ?hqk3 ?hqk4 ?_; (case hqk1 => k_asm); (case hqk2 => k_mem); (case hqk3 => exact IntsAre.length (by assumption)); (case hqk4 => (first | lia | omega))); k_whole)))) | ((with_reducible show wpAny _ _ (newTuple _) _ _ _); ((k_here; k_dflt (refine' kup_newTuple ?hqF ?hqN ?_ ?hqz; (case hqF | hqN => k_asm); (case hqz => kmk_size)); intro _ _ _ _ hq_l1; (try k_lt hq_l1); (try k_sweep)))) | ((k_here; (with_reducible show wpAny _ _ (call (Value.type _) [Value.ref _]) _ _ _); k_dflt (refine' kde_tupleOf ?hqk1 ?hqk2 ?hqk3 ?hqk4 ?hqk5 ?_; (case hqk1 | hqk2 => k_asm); (case hqk3 => exact News.isList (by k_asm) (by k_mem)); (case hqk4 => (simp only [List.size_toArray]; (first | lia | omega))); (case hqk5 => exact rfl); k_whole); intro _ _ _ _ hq_l1; (try k_lt hq_l1); (try k_sweep))))) | ((fail_if_success with_reducible (first | show wpAny _ _ (exec (Stmt.For _ _ _ _ _) _) _ _ _ | show wpAny _ _ (pyIter _) _ _ _ | show wpAny _ _ (exec (Stmt.Assign _ (Expr.ListComp _ _ _ _) _) _) _ _ _ | show wpAny _ _ (eval (Expr.ListComp _ _ _ _) _) _ _ _ | show LCg.CompSrc _ _ _ _ _ _ _ _ _ _ _ _ _ _ | show LCg.CompEnd _ _ _ _ _ _ _ _ _ _ _ _ _ _)); first | walk1 | (dsimp only; walk1)) | (leave1; try dsimp only) | fail))
        refine LCg.CompEnd.intro (by k_asm) (by k_asm) _ (fun p hp => hp) off (Or.inr ⟨_, by k_mem, rfl, _, rfl⟩) (And.intro rfl (strsAre_app hJ2 (.cons _ _ .nil))))
    · intro ys2 nw2 hJ2
      obtain ⟨rfl, hJ2⟩ := hJ2
      rw [List.size_toArray, hvl, ← hl6, List.take_length] at hJ2
      have h0 := cnt_le6 hl6 0
      have h1 := cnt_le6 hl6 1
      have h2 := cnt_le6 hl6 2
      have h0' := cnt_nonneg ls 0
      have h1' := cnt_nonneg ls 1
      have h2' := cnt_nonneg ls 2
      have hr : ∀ k : Int, (rowS (cnt ls k)).length = (cnt ls k).toNat + 1 := by
        intro k
        rw [len_of_codes, codes_row _ (cnt_nonneg ls k), List.length_append, List.length_replicate]
        rfl
      have hw1 : (([rowS (cnt ls 0), rowS (cnt ls 1), rowS (cnt ls 2)] : List Str).map (·.length)).sum + ([rowS (cnt ls 0), rowS (cnt ls 1), rowS (cnt ls 2)] : List Str).length ≤ 1048576 := by
        simp only [List.map_cons, List.map_nil, List.sum_cons, List.sum_nil, List.length_cons, List.length_nil, hr]
        (first | lia | omega)
      have hls1 : ∀ l : List Int, ((l.map letS).map (·.length)).sum = l.length := by
        intro l
        induction l with
        | nil => rfl
        | cons a r ih => rw [List.map_cons, List.map_cons, List.sum_cons, ih, len_of_codes, codes_let, List.length_cons]; simp; (first | lia | omega)
      have hw2 : ((ls.map letS).map (·.length)).sum + (ls.map letS).length ≤ 1048576 := by
        rw [hls1, List.length_map]
        (first | lia | omega)
      have hj1 : (Txt.join (Str.ofString "") [rowS (cnt ls 0), rowS (cnt ls 1), rowS (cnt ls 2)]).length ≤ 30 := by
        rw [len_of_codes, codes_join]
        simp only [List.map_cons, List.map_nil, List.flatten_cons, List.flatten_nil, codes_row _ (cnt_nonneg ls _), List.length_append, List.length_replicate, List.length_cons, List.length_nil]
        (first | lia | omega)
      have hj2 : (Txt.join (Str.ofString "") (ls.map letS)).length ≤ 6 := by
        rw [len_of_codes, codes_join]
        have : ∀ l : List Int, (((l.map letS).map (fun s => s.cps.toList)).flatten).length = l.length := by
          intro l
          induction l with
          | nil => rfl
          | cons a r ih => rw [List.map_cons, List.map_cons, List.flatten_cons, List.length_append, ih, codes_let, List.length_cons]; simp; (first | lia | omega)
        rw [this]
        (first | lia | omega)
      have hmo : mo.length ≤ 1 := hlen
      have hst : (Str.ofString " \t").length = 2 := by decide +kernel
      have hcl := codes_lead ls mo
      have hx2 : (leadT ls mo).cps.size ≤ 100 := by
        have e := congrArg List.length hcl
        rw [leadC_length] at e
        have e2 : (leadT ls mo).cps.toList.length = (leadT ls mo).cps.size := by simp
        have e3 : mo.cps.toList.length = mo.cps.size := by simp
        rw [List.length_map] at e
        (first | lia | omega)
      have hx1 : (leadT ls mo).cps.all (· < 128) = true := by
        rw [← Array.all_toList, hcl, List.all_eq_true]
        intro k hk
        refine decide_eq_true (leadC_ascii ?_ ?_ k hk)
        · intro k hk
          have := hasc
          rw [← Array.all_toList, List.all_eq_true] at this
          exact of_decide_eq_true (this k hk)
        · intro k hk
          obtain ⟨l, _, rfl⟩ := List.mem_map.mp hk
          exact letC_lt l
      unfold leadT at hx1 hx2
      unfold LCg.FinA
      intro D2 h2 tk2 F2 N2 o2
      try k_fold
      (repeat' (first | (k_unfold; (try dsimp only)) | (k_end; wrow_close) | ((with_reducible show wpAny _ _ (execs (_ :: _) _) _ _ (Shared.mk _ _ _ (_ + 1) _)); (with_reducible refine toks_cut ?_); intro _) | ((first | ((with_reducible show wpAny _ _ (call (Value.ref _) _) _ _ _); (first | ((k_here; (with_reducible show wpAny _ _ (call (Value.ref 76) _) _ _ _); k_dflt (refine' ct_use (init_ct _ _ _ _ _ _ ?hqh1 ?hqh2) ?kB ?kF ?kX ?kN ?kT ?kk ?kP ?kd ?ku ?_; (case hqh1 | hqh2 => assumption); (case kB | kF | kX | kN | kT => k_asm); (case kk => first | exact rfl | assumption); (case kP => exact trivial); (case kd | ku => (((try dsimp only [ktrTop, Around.deeper, Around.in1] at *); (first | lia | omega)))); k_whole; intro _ _ _ _ _ _ _ _; (try dsimp only); (try k_sweep); (try k_fold)))) | ((k_here; (with_reducible show wpAny _ _ (call (Value.ref 108) _) _ _ _); k_dflt (refine' ct_useI (countOf_ct _ _ _ _ _ _ _ _ _ _) ?kB ?kF ?kX ?kN ?kT ?kk ?kP ?kd ?ku ?_; (((case kB | kF | kX | kN | kT => k_asm); (case kk => first | exact rfl | assumption); (case kP => (first | ((refine ⟨?_, by k_mem⟩; first | assumption | exact IsWord.mono (by assumption) (by (first | exact fun _ h => h | (intro p hp; k_ownIn) | (intro p hp; exact List.mem_append.mpr (.inl hp)) | (intro p hp; exact List.mem_cons_of_mem _ (List.mem_append.mpr (.inl hp))) | (intro p hp; simp only [List.mem_append, List.mem_cons] at *; simp [hp]))))) | (first | exact trivial | assumption | exact Ws.mono (by assumption) (by (first | exact fun _ h => h | (intro p hp; k_ownIn) | (intro p hp; exact List.mem_append.mpr (.inl hp)) | (intro p hp; exact List.mem_cons_of_mem _ (List.mem_append.mpr (.inl hp))) | (intro p hp; simp only [List.mem_append, List.mem_cons] at *; simp [hp])))))); (case kd | ku => (((try dsimp only [ktrTop, Around.deeper, Around.in1] at *); (first | lia | omega)))); k_whole; intro mq_tp mq_hp mq_tkp mq_Fp mq_Np; (try dsimp only); (try k_sweep); (try k_fold)))))))) | ((k_here; (with_reducible show wpAny _ _ (binaryOp Operator.Add (Value.str _ _) (Value.str _ _)) _ _ _); k_dflt (refine' PyProof.Rows.add_str ?_ ?hqsz; (case hqsz => (simp only [Str.length_append, sizeLine_eq]; (first | lia | omega)))); intro _ _)) | ((with_reducible show wpAny _ _ (subscriptTail _ _ (Value.ref _) _) _ _ _); (first | ((k_here; (with_reducible show wpAny _ _ (subscriptTail _ _ (Value.ref _) (Value.int 0 _)) _ _ _); k_dflt (refine' item_at0 ?hqk1 ?hqk2 ?_; (case hqk1 => k_asm); (case hqk2 => k_mem)); k_whole)) | ((k_here; (with_reducible show wpAny _ _ (subscriptTail _ _ (Value.ref _) (Value.int _ _)) _ _ _); k_dflt (refine' item_listM ?hqk1 ?hqk2 ?hqk3 ?hqk4 ?hqk5 ?hqk6 ?_; (case hqk1 => k_asm); (case hqk2 => k_mem); (case hqk3 => assumption); (case hqk4 | hqk5 | hqk6 => (first | lia | omega))); k_whole; intro _)) | ((k_here; (with_reducible show wpAny _ _ (subscriptTail _ _ (Value.ref _) (Value.int _ _)) _ _ _); k_dflt (refine' item_tupM ?hqk1 ?hqk2 ?hqk3 ?hqk4 ?hqk5 ?hqk6 ?_; (case hqk1 => k_asm); (case hqk2 => k_mem); (case hqk3 => assumption); (case hqk4 | hqk5 | hqk6 => (first | lia | omega))); k_whole; intro _)))) | ((with_reducible show wpAny _ _ (call (Value.builtin _) _) _ _ _); (first | ((k_here; (with_reducible show wpAny _ _ (call (Value.builtin "str.join") [Value.str _ _, Value.ref _]) _ _ _); k_dflt (refine' join_listW ?hqk1 ?hqk2 ?hqk3 ?hqk4 ?_; (case hqk1 => exact News.isList (by k_asm) (by k_mem)); (case hqk2 => assumption); (case hqk3 => decide +kernel); (case hqk4 => assumption)); intro _ _)) | ((k_here; (with_reducible show wpAny _ _ (call (Value.builtin "len") [Value.ref _]) _ _ _); k_dflt (refine' len_tupM ?hqk1 ?hqk2 ?hqk3 ?hqk4 ?_; (case hqk1 => k_asm); (case hqk2 => k_mem); (case hqk3 => exact IntsAre.length (by assumption)); (case hqk4 => (first | lia | omega))); k_whole)) | ((k_here; (with_reducible show wpAny _ _ (call (Value.builtin "len") [Value.ref _]) _ _ _); k_dflt (refine' len_listM ?hqk1 ?hqk2 ?hqk3 ?hqk4 ?_; (case hqk1 => k_asm); (case hqk2 => k_mem); (case hqk3 => exact IntsAre.length (by assumption)); (case hqk4 => (first | lia | omega))); k_whole)))) | ((with_reducible show wpAny _ _ (newTuple _) _ _ _); ((k_here; k_dflt (refine' kup_newTuple ?hqF ?hqN ?_ ?hqz; (case hqF | hqN => k_asm); (case hqz => kmk_size)); intro _ _ _ _ hq_l1; (try k_lt hq_l1); (try k_sweep)))) | ((k_here; (with_reducible show wpAny _ _ (call (Value.type _) [Value.ref _]) _ _ _); k_dflt (refine' kde_tupleOf ?hqk1 ?hqk2 ?hqk3 ?hqk4 ?hqk5 ?_; (case hqk1 | hqk2 => k_asm); (case hqk3 => exact News.isList (by k_asm) (by k_mem)); (case hqk4 => (simp only [List.size_toArray]; (first | lia | omega))); (case hqk5 => exact rfl); k_whole); intro _ _ _ _ hq_l1; (try k_lt hq_l1); (try k_sweep))))) | ((fail_if_success with_reducible (first | show wpAny _ _ (exec (Stmt.For _ _ _ _ _) _) _ _ _ | show wpAny _ _ (pyIter _) _ _ _ | show wpAny _ _ (exec (Stmt.Assign _ (Expr.ListComp _ _ _ _) _) _) _ _ _ | show wpAny _ _ (eval (Expr.ListComp _ _ _ _) _) _ _ _ | show LCg.CompSrc _ _ _ _ _ _ _ _ _ _ _ _ _ _ | show LCg.CompEnd _ _ _ _ _ _ _ _ _ _ _ _ _ _)); first | walk1 | (dsimp only; walk1)) | (leave1; try dsimp only) | fail))
      rename (∃ n nt b cn, _) => hpost
      obtain ⟨n, nt, b, cn, hsc, hW⟩ := hpost
      have hsc' : scan (leadT ls mo).cps.toList 0 0 0 [] = (n, nt, b, cn) := hsc
      rw [hcl] at hsc'
      rename (∀ q : Addr × Obj, q ∈ _ → ∀ p : Addr × Obj, p ∈ _ → q.1 ≠ p.1) => hne
      exact hret _ _ _ _ (by k_asm) (kst_newsOf (by assumption) (fun p hp => (List.mem_append.mp hp).elim (fun h => List.mem_append.mpr (.inl h)) fun h => List.mem_append.mpr (.inr (.tail _ (.tail _ (.tail _ h)))))) (fun q hq p hp => hne q (.tail _ (.tail _ (.tail _ hq))) p hp) ⟨n, nt, b, cn, hsc', hW⟩
theorem pickC {o : Obj} {c : Option Value} (_ : o.data = Data.cell c) : ∃ a : Obj, a = o := ⟨o, rfl⟩
theorem or_mem1 {p a b d1 d2 : Addr × Obj} {news own : Led} (h : p ∈ a :: b :: news) : p ∈ d1 :: d2 :: a :: b :: (news ++ own) := by
  simp only [List.mem_cons, List.mem_append] at *
  rcases h with h | h | h <;> simp [h]
theorem or_mem2 {p a b d1 d2 : Addr × Obj} {news own : Led} (h : p ∈ own) : p ∈ d1 :: d2 :: a :: b :: (news ++ own) := by simp [h]
structure OrSt where
  ways : Int
  tw : Tok
  ok : Obj
def ordW (ls : List Int) : Nat → Int
  | 0 => 1
  | i + 1 => (ordW ls i * (0 + (i : Int) + 1)).fdiv (cnt (ls.take (i + 1)) (ls.getD i 0))
theorem orders_ct (w : World) (mean : ExcName → Option Value) (mg mb : Str → Option Value) (v : Value) (ls : List Int) (hl6 : ls.length = 6) :
   Ct w mean mg mb 130 3 [v] (fun news => IsWord news v ls)
    (fun news tl r => tl = [] ∧ ∃ t, r = .int (ordW ls 6) t) := by
  unfold Ct
  k_fill
  intro dp un gd cs' cs a ccd cl outer A₀ base h₀ L m news s Q E B F X N T hk hP hd hu hret
  obtain ⟨aw, vs, nw, rfl, hw, hls⟩ := id hP
  have hvl : vs.length = 6 := by rw [hls.length, hl6]
  refine wpAny_call ?_
  k_dflt (((refine' code_defC ?k1 ?k2 ?k3 ?k4 ?k5 ?kA ?kF ?kK ?k6 ?k7 ?k8 ?k9 ?kB ?kD ?_ ?c2 ?c3 ?c4; (case kA | kF => exact rfl); (case kK => assumption); (case k1 | k2 | k3 | k4 | k5 => k_asm); (case k6 | k7 => k_is); (case k8 => ktr_room); (case k9 => exact BindsTo.of_eq rfl); (case kB => exact rfl); (case kD => decide +kernel); (case c2 | c3 | c4 => exact rfl); k_whole; intro g' L' mq_hp mq_tkp cells' FG' mq_Fp mq_Np Y' B' X' T' mq_l1; (try k_lt mq_l1); k_cells Y'; (try simp only [List.cons_append, List.nil_append] at mq_Np); (try dsimp only); (try k_fold))))
  rename Fr _ _ _ (bindL _ _ _) => lF
  with_unfolding_all replace lF : Fr _ _ _ (kstB (fun _ => none) []) := lF
  rename (Obj.data _ = Data.cell _) => d2
  revert d2
  rename (Obj.data _ = Data.cell _) => d1
  intro d2
  obtain ⟨o1, eo1⟩ := pickC d1
  subst eo1
  obtain ⟨o2, eo2⟩ := pickC d2
  subst eo2
  with_unfolding_all replace d1 : o1.data = .cell none := d1
  with_unfolding_all replace d2 : o2.data = .cell (some (.ref aw)) := d2
  (repeat' (first | (k_unfold; (try dsimp only)) | (k_end; wrow_close) | ((with_reducible show wpAny _ _ (execs (_ :: _) _) _ _ (Shared.mk _ _ _ (_ + 1) _)); (with_reducible refine toks_cut ?_); intro _) | ((first | ((with_reducible show wpAny _ _ (subscriptTail _ _ (Value.ref _) _) _ _ _); (first | ((k_here; (with_reducible show wpAny _ _ (subscriptTail _ _ (Value.ref _) (Value.int _ _)) _ _ _); k_dflt (refine' item_refM ?hqk1 ?hqk2 ?hqk4 ?hqk5 ?hqk6 ?_; (case hqk1 => k_asm); (case hqk2 => k_mem); (case hqk4 | hqk5 => (first | lia | omega)); (case hqk6 => assumption)); k_whole)) | ((k_here; (with_reducible show wpAny _ _ (subscriptTail _ (PySem.Expr.Slice none (some _) none _) (Value.ref _) (Value.ref _)) _ _ _); k_dflt (refine' kms_slice_lit ?hqF ?hqN ?hql ?hqp ?hqq ?hqe ?_ ?hqs ?hqt ?hqz; (case hqF | hqN => k_asm); (case hql => exact News.isList (by k_asm) (by k_mem)); (case hqp | hqq => kmk_part); (case hqe => assumption); (case hqs => with_unfolding_all rfl); (case hqt => kmk_pure); (case hqz => (simp only [List.size_toArray, sizeLine_eq]; (first | lia | omega)))); intro _ _ _ _ hq_l1; (try k_lt hq_l1); (try k_sweep))) | ((k_here; (with_reducible show wpAny _ _ (subscriptTail _ _ (Value.ref _) (Value.int 0 _)) _ _ _); k_dflt (refine' item_at0 ?hqk1 ?hqk2 ?_; (case hqk1 => k_asm); (case hqk2 => k_mem)); k_whole)) | ((k_here; (with_reducible show wpAny _ _ (subscriptTail _ _ (Value.ref _) (Value.int _ _)) _ _ _); k_dflt (refine' item_listM ?hqk1 ?hqk2 ?hqk3 ?hqk4 ?hqk5 ?hqk6 ?_; (case hqk1 => k_asm); (case hqk2 => k_mem); (case hqk3 => assumption); (case hqk4 | hqk5 | hqk6 => (first | lia | omega))); k_whole; intro _)) | ((k_here; (with_reducible show wpAny _ _ (subscriptTail _ _ (Value.ref _) (Value.int _ _)) _ _ _); k_dflt (refine' item_tupM ?hqk1 ?hqk2 ?hqk3 ?hqk4 ?hqk5 ?hqk6 ?_; (case hqk1 => k_asm); (case hqk2 => k_mem); (case hqk3 => assumption); (case hqk4 | hqk5 | hqk6 => (first | lia | omega))); k_whole; intro _)))) | ((with_reducible show wpAny _ _ (call (Value.ref _) _) _ _ _); ((k_here; (with_reducible show wpAny _ _ (call (Value.ref 108) _) _ _ _); k_dflt (refine' ct_useI (countOf_ct _ _ _ _ _ _ _ _ _ _) ?kB ?kF ?kX ?kN ?kT ?kk ?kP ?kd ?ku ?_; (((case kB | kF | kX | kN | kT => k_asm); (case kk => first | exact rfl | assumption); (case kP => (first | ((refine ⟨?_, by k_mem⟩; first | assumption | exact IsWord.mono (by assumption) (by (first | exact fun _ h => h | (intro p hp; k_ownIn) | (intro p hp; exact List.mem_append.mpr (.inl hp)) | (intro p hp; exact List.mem_cons_of_mem _ (List.mem_append.mpr (.inl hp))) | (intro p hp; simp only [List.mem_append, List.mem_cons] at *; simp [hp]))))) | (first | exact trivial | assumption | exact Ws.mono (by assumption) (by (first | exact fun _ h => h | (intro p hp; k_ownIn) | (intro p hp; exact List.mem_append.mpr (.inl hp)) | (intro p hp; exact List.mem_cons_of_mem _ (List.mem_append.mpr (.inl hp))) | (intro p hp; simp only [List.mem_append, List.mem_cons] at *; simp [hp])))))); (case kd | ku => (((try dsimp only [ktrTop, Around.deeper, Around.in1] at *); (first | lia | omega)))); k_whole; intro mq_tp mq_hp mq_tkp mq_Fp mq_Np; (try dsimp only); (try k_sweep); (try k_fold))))))) | ((k_here; (with_reducible show wpAny _ _ (binaryOp Operator.Add (Value.str _ _) (Value.str _ _)) _ _ _); k_dflt (refine' PyProof.Rows.add_str ?_ ?hqsz; (case hqsz => (simp only [Str.length_append, sizeLine_eq]; (first | lia | omega)))); intro _ _)) | ((with_reducible show wpAny _ _ (call (Value.builtin _) _) _ _ _); (first | ((k_here; (with_reducible show wpAny _ _ (call (Value.builtin "str.join") [Value.str _ _, Value.ref _]) _ _ _); k_dflt (refine' join_listW ?hqk1 ?hqk2 ?hqk3 ?hqk4 ?_; (case hqk1 => exact News.isList (by k_asm) (by k_mem)); (case hqk2 => assumption); (case hqk3 => decide +kernel); (case hqk4 => assumption)); intro _ _)) | ((k_here; (with_reducible show wpAny _ _ (call (Value.builtin "len") [Value.ref _]) _ _ _); k_dflt (refine' len_tupM ?hqk1 ?hqk2 ?hqk3 ?hqk4 ?_; (case hqk1 => k_asm); (case hqk2 => k_mem); (case hqk3 => first | exact IntsAre.length (by assumption) | assumption); (case hqk4 => (first | lia | omega))); k_whole)) | ((k_here; (with_reducible show wpAny _ _ (call (Value.builtin "len") [Value.ref _]) _ _ _); k_dflt (refine' len_listM ?hqk1 ?hqk2 ?hqk3 ?hqk4 ?_; (case hqk1 => k_asm); (case hqk2 => k_mem); (case hqk3 => first | exact IntsAre.length (by assumption) | assumption); (case hqk4 => (first | lia | omega))); k_whole)))) | ((with_reducible show wpAny _ _ (newTuple _) _ _ _); ((k_here; k_dflt (refine' kup_newTuple ?hqF ?hqN ?_ ?hqz; (case hqF | hqN => k_asm); (case hqz => kmk_size)); intro _ _ _ _ hq_l1; (try k_lt hq_l1); (try k_sweep)))) | ((k_here; (with_reducible show wpAny _ _ (call (Value.type _) [Value.ref _]) _ _ _); k_dflt (refine' kde_tupleOf ?hqk1 ?hqk2 ?hqk3 ?hqk4 ?hqk5 ?_; (case hqk1 | hqk2 => k_asm); (case hqk3 => exact News.isList (by k_asm) (by k_mem)); (case hqk4 => (simp only [List.size_toArray]; (first | lia | omega))); (case hqk5 => exact rfl); k_whole); intro _ _ _ _ hq_l1; (try k_lt hq_l1); (try k_sweep))))) | ((fail_if_success with_reducible (first | show wpAny _ _ (exec (Stmt.For _ _ _ _ _) _) _ _ _ | show wpAny _ _ (pyIter _) _ _ _ | show wpAny _ _ (exec (Stmt.Assign _ (Expr.ListComp _ _ _ _) _) _) _ _ _ | show wpAny _ _ (eval (Expr.ListComp _ _ _ _) _) _ _ _ | show LCg.CompSrc _ _ _ _ _ _ _ _ _ _ _ _ _ _ | show LCg.CompEnd _ _ _ _ _ _ _ _ _ _ _ _ _ _ | show LCt.CompSrcT _ _ _ _ _ _ _ _ _ _ _ _ _ _ _)); first | walk1 | (dsimp only; walk1)) | (leave1; try dsimp only) | fail))
  rename Fr _ _ _ _ => lF
  with_unfolding_all refine' For_turns lF ?_
  (repeat' (first | (k_unfold; (try dsimp only)) | (k_end; wrow_close) | ((with_reducible show wpAny _ _ (execs (_ :: _) _) _ _ (Shared.mk _ _ _ (_ + 1) _)); (with_reducible refine toks_cut ?_); intro _) | ((first | ((with_reducible show wpAny _ _ (subscriptTail _ _ (Value.ref _) _) _ _ _); (first | ((k_here; (with_reducible show wpAny _ _ (subscriptTail _ _ (Value.ref _) (Value.int _ _)) _ _ _); k_dflt (refine' item_refM ?hqk1 ?hqk2 ?hqk4 ?hqk5 ?hqk6 ?_; (case hqk1 => k_asm); (case hqk2 => k_mem); (case hqk4 | hqk5 => (first | lia | omega)); (case hqk6 => assumption)); k_whole)) | ((k_here; (with_reducible show wpAny _ _ (subscriptTail _ (PySem.Expr.Slice none (some _) none _) (Value.ref _) (Value.ref _)) _ _ _); k_dflt (refine' kms_slice_lit ?hqF ?hqN ?hql ?hqp ?hqq ?hqe ?_ ?hqs ?hqt ?hqz; (case hqF | hqN => k_asm); (case hql => exact News.isList (by k_asm) (by k_mem)); (case hqp | hqq => kmk_part); (case hqe => assumption); (case hqs => with_unfolding_all rfl); (case hqt => kmk_pure); (case hqz => (simp only [List.size_toArray, sizeLine_eq]; (first | lia | omega)))); intro _ _ _ _ hq_l1; (try k_lt hq_l1); (try k_sweep))) | ((k_here; (with_reducible show wpAny _ _ (subscriptTail _ _ (Value.ref _) (Value.int 0 _)) _ _ _); k_dflt (refine' item_at0 ?hqk1 ?hqk2 ?_; (case hqk1 => k_asm); (case hqk2 => k_mem)); k_whole)) | ((k_here; (with_reducible show wpAny _ _ (subscriptTail _ _ (Value.ref _) (Value.int _ _)) _ _ _); k_dflt (refine' item_listM ?hqk1 ?hqk2 ?hqk3 ?hqk4 ?hqk5 ?hqk6 ?_; (case hqk1 => k_asm); (case hqk2 => k_mem); (case hqk3 => assumption); (case hqk4 | hqk5 | hqk6 => (first | lia | omega))); k_whole; intro _)) | ((k_here; (with_reducible show wpAny _ _ (subscriptTail _ _ (Value.ref _) (Value.int _ _)) _ _ _); k_dflt (refine' item_tupM ?hqk1 ?hqk2 ?hqk3 ?hqk4 ?hqk5 ?hqk6 ?_; (case hqk1 => k_asm); (case hqk2 => k_mem); (case hqk3 => assumption); (case hqk4 | hqk5 | hqk6 => (first | lia | omega))); k_whole; intro _)))) | ((with_reducible show wpAny _ _ (call (Value.ref _) _) _ _ _); ((k_here; (with_reducible show wpAny _ _ (call (Value.ref 108) _) _ _ _); k_dflt (refine' ct_useI (countOf_ct _ _ _ _ _ _ _ _ _ _) ?kB ?kF ?kX ?kN ?kT ?kk ?kP ?kd ?ku ?_; (((case kB | kF | kX | kN | kT => k_asm); (case kk => first | exact rfl | assumption); (case kP => (first | ((refine ⟨?_, by k_mem⟩; first | assumption | exact IsWord.mono (by assumption) (by (first | exact fun _ h => h | (intro p hp; k_ownIn) | (intro p hp; exact List.mem_append.mpr (.inl hp)) | (intro p hp; exact List.mem_cons_of_mem _ (List.mem_append.mpr (.inl hp))) | (intro p hp; simp only [List.mem_append, List.mem_cons] at *; simp [hp]))))) | (first | exact trivial | assumption | exact Ws.mono (by assumption) (by (first | exact fun _ h => h | (intro p hp; k_ownIn) | (intro p hp; exact List.mem_append.mpr (.inl hp)) | (intro p hp; exact List.mem_cons_of_mem _ (List.mem_append.mpr (.inl hp))) | (intro p hp; simp only [List.mem_append, List.mem_cons] at *; simp [hp])))))); (case kd | ku => (((try dsimp only [ktrTop, Around.deeper, Around.in1] at *); (first | lia | omega)))); k_whole; intro mq_tp mq_hp mq_tkp mq_Fp mq_Np; (try dsimp only); (try k_sweep); (try k_fold))))))) | ((k_here; (with_reducible show wpAny _ _ (binaryOp Operator.Add (Value.str _ _) (Value.str _ _)) _ _ _); k_dflt (refine' PyProof.Rows.add_str ?_ ?hqsz; (case hqsz => (simp only [Str.length_append, sizeLine_eq]; (first | lia | omega)))); intro _ _)) | ((with_reducible show wpAny _ _ (call (Value.builtin _) _) _ _ _); (first | ((k_here; (with_reducible show wpAny _ _ (call (Value.builtin "str.join") [Value.str _ _, Value.ref _]) _ _ _); k_dflt (refine' join_listW ?hqk1 ?hqk2 ?hqk3 ?hqk4 ?_; (case hqk1 => exact News.isList (by k_asm) (by k_mem)); (case hqk2 => assumption); (case hqk3 => decide +kernel); (case hqk4 => assumption)); intro _ _)) | ((k_here; (with_reducible show wpAny _ _ (call (Value.builtin "len") [Value.ref _]) _ _ _); k_dflt (refine' len_tupM ?hqk1 ?hqk2 ?hqk3 ?hqk4 ?_; (case hqk1 => k_asm); (case hqk2 => k_mem); (case hqk3 => first | exact IntsAre.length (by assumption) | assumption); (case hqk4 => (first | lia | omega))); k_whole)) | ((k_here; (with_reducible show wpAny _ _ (call (Value.builtin "len") [Value.ref _]) _ _ _); k_dflt (refine' len_listM ?hqk1 ?hqk2 ?hqk3 ?hqk4 ?_; (case hqk1 => k_asm); (case hqk2 => k_mem); (case hqk3 => first | exact IntsAre.length (by assumption) | assumption); (case hqk4 => (first | lia | omega))); k_whole)))) | ((with_reducible show wpAny _ _ (newTuple _) _ _ _); ((k_here; k_dflt (refine' kup_newTuple ?hqF ?hqN ?_ ?hqz; (case hqF | hqN => k_asm); (case hqz => kmk_size)); intro _ _ _ _ hq_l1; (try k_lt hq_l1); (try k_sweep)))) | ((k_here; (with_reducible show wpAny _ _ (call (Value.type _) [Value.ref _]) _ _ _); k_dflt (refine' kde_tupleOf ?hqk1 ?hqk2 ?hqk3 ?hqk4 ?hqk5 ?_; (case hqk1 | hqk2 => k_asm); (case hqk3 => exact News.isList (by k_asm) (by k_mem)); (case hqk4 => (simp only [List.size_toArray]; (first | lia | omega))); (case hqk5 => exact rfl); k_whole); intro _ _ _ _ hq_l1; (try k_lt hq_l1); (try k_sweep))))) | ((fail_if_success with_reducible (first | show wpAny _ _ (exec (Stmt.For _ _ _ _ _) _) _ _ _ | show wpAny _ _ (pyIter _) _ _ _ | show wpAny _ _ (exec (Stmt.Assign _ (Expr.ListComp _ _ _ _) _) _) _ _ _ | show wpAny _ _ (eval (Expr.ListComp _ _ _ _) _) _ _ _ | show LCg.CompSrc _ _ _ _ _ _ _ _ _ _ _ _ _ _ | show LCg.CompEnd _ _ _ _ _ _ _ _ _ _ _ _ _ _ | show LCt.CompSrcT _ _ _ _ _ _ _ _ _ _ _ _ _ _ _)); first | walk1 | (dsimp only; walk1)) | (leave1; try dsimp only) | fail))
  rename Fr _ _ _ _ => lF
  rename News _ _ _ _ => lN
  rename IsRange _ _ _ _ _ _ _ _ => hR
  rename (∀ p ∈ news, p.1 < _) => hl1
  obtain ⟨Lc, eL⟩ := pickA hl1
  subst eL
  with_unfolding_all refine lt_range (σ := OrSt) (fun c => (Lc + 1 + 1, c.ok) :: (Lc + 1, o2) :: news) (fun c => [(Str.ofString "ways", .int c.ways c.tw)]) [] (fun i c => c.ways = ordW ls i ∧ ∃ cv, c.ok.data = .cell cv) ⟨1, _, o1⟩ (by exact rfl) hR (small_of (by decide) (by decide) (by decide) (by decide)) (rangeSize_nat _ _) lF lN (List.forall_mem_cons.mpr ⟨by with_unfolding_all rfl, List.forall_mem_nil _⟩) ⟨rfl, _, d1⟩ ?_ ?_
  · intro c i t' u h' tk' own hi hoff hP' F' N'
    obtain ⟨hw', cv, hcv⟩ := hP'
    simp only [List.cons_append] at N'
    have hi6 : i < 6 := hi
    obtain ⟨vi, hvi⟩ : ∃ v, vs[i]? = some v := ⟨vs[i]'(by (first | lia | omega)), List.getElem?_eq_getElem (by (first | lia | omega))⟩
    obtain ⟨ai, ni, li, ti, rfl, hmi, hli⟩ := hls.get hvi
    have hne : ∀ p ∈ news ++ own, p.1 ≠ Lc + 1 + 1 := by
      intro p hp
      rcases List.mem_append.mp hp with hp | hp
      · exact Nat.ne_of_lt (Nat.lt_of_lt_of_le (hl1 p hp) (by (first | lia | omega)))
      · exact hoff p hp _ (by simp)
    have hpick : kms_pick vs.toArray.toList none (some (0 + (i : Int) + 1)) = vs.take (i + 1) := by
      unfold kms_pick kms_lo kms_hi
      have e : ¬ (0 + (i : Int) + 1 < 0) := by (first | lia | omega)
      have e2 : (0 + (i : Int) + 1).toNat = i + 1 := by (first | lia | omega)
      simp only [if_neg e, e2, List.drop_zero, Nat.sub_zero]
      rw [Nat.min_eq_left (by rw [hvl]; (first | lia | omega))]
    try k_fold
    (repeat' (first | (k_unfold; (try dsimp only)) | (k_end; wrow_close) | ((with_reducible show wpAny _ _ (execs (_ :: _) _) _ _ (Shared.mk _ _ _ (_ + 1) _)); (with_reducible refine toks_cut ?_); intro _) | ((first | ((with_reducible show wpAny _ _ (subscriptTail _ _ (Value.ref _) _) _ _ _); (first | ((k_here; (with_reducible show wpAny _ _ (subscriptTail _ _ (Value.ref _) (Value.int _ _)) _ _ _); k_dflt (refine' item_refM ?hqk1 ?hqk2 ?hqk4 ?hqk5 ?hqk6 ?_; (case hqk1 => k_asm); (case hqk2 => k_mem); (case hqk4 | hqk5 => (first | lia | omega)); (case hqk6 => assumption)); k_whole)) | ((k_here; (with_reducible show wpAny _ _ (subscriptTail _ (PySem.Expr.Slice none (some _) none _) (Value.ref _) (Value.ref _)) _ _ _); k_dflt (refine' kms_slice_lit ?hqF ?hqN ?hql ?hqp ?hqq ?hqe ?_ ?hqs ?hqt ?hqz; (case hqF | hqN => k_asm); (case hql => exact News.isList (by k_asm) (by k_mem)); (case hqp | hqq => kmk_part); (case hqe => assumption); (case hqs => with_unfolding_all rfl); (case hqt => kmk_pure); (case hqz => (simp only [List.size_toArray, sizeLine_eq]; (first | lia | omega)))); intro _ _ _ _ hq_l1; (try k_lt hq_l1); (try k_sweep))) | ((k_here; (with_reducible show wpAny _ _ (subscriptTail _ _ (Value.ref _) (Value.int 0 _)) _ _ _); k_dflt (refine' item_at0 ?hqk1 ?hqk2 ?_; (case hqk1 => k_asm); (case hqk2 => k_mem)); k_whole)) | ((k_here; (with_reducible show wpAny _ _ (subscriptTail _ _ (Value.ref _) (Value.int _ _)) _ _ _); k_dflt (refine' item_listM ?hqk1 ?hqk2 ?hqk3 ?hqk4 ?hqk5 ?hqk6 ?_; (case hqk1 => k_asm); (case hqk2 => k_mem); (case hqk3 => assumption); (case hqk4 | hqk5 | hqk6 => (first | lia | omega))); k_whole; intro _)) | ((k_here; (with_reducible show wpAny _ _ (subscriptTail _ _ (Value.ref _) (Value.int _ _)) _ _ _); k_dflt (refine' item_tupM ?hqk1 ?hqk2 ?hqk3 ?hqk4 ?hqk5 ?hqk6 ?_; (case hqk1 => k_asm); (case hqk2 => k_mem); (case hqk3 => assumption); (case hqk4 | hqk5 | hqk6 => (first | lia | omega))); k_whole; intro _)))) | ((with_reducible show wpAny _ _ (call (Value.ref _) _) _ _ _); ((k_here; (with_reducible show wpAny _ _ (call (Value.ref 108) _) _ _ _); k_dflt (refine' ct_useI (countOf_ct _ _ _ _ _ _ _ _ _ _) ?kB ?kF ?kX ?kN ?kT ?kk ?kP ?kd ?ku ?_; (((case kB | kF | kX | kN | kT => k_asm); (case kk => first | exact rfl | assumption); (case kP => (first | ((refine ⟨?_, by k_mem⟩; first | assumption | exact IsWord.mono (by assumption) (by (first | exact fun _ h => h | (intro p hp; k_ownIn) | (intro p hp; exact List.mem_append.mpr (.inl hp)) | (intro p hp; exact List.mem_cons_of_mem _ (List.mem_append.mpr (.inl hp))) | (intro p hp; simp only [List.mem_append, List.mem_cons] at *; simp [hp]))))) | (first | exact trivial | assumption | exact Ws.mono (by assumption) (by (first | exact fun _ h => h | (intro p hp; k_ownIn) | (intro p hp; exact List.mem_append.mpr (.inl hp)) | (intro p hp; exact List.mem_cons_of_mem _ (List.mem_append.mpr (.inl hp))) | (intro p hp; simp only [List.mem_append, List.mem_cons] at *; simp [hp])))))); (case kd | ku => (((try dsimp only [ktrTop, Around.deeper, Around.in1] at *); (first | lia | omega)))); k_whole; intro mq_tp mq_hp mq_tkp mq_Fp mq_Np; (try dsimp only); (try k_sweep); (try k_fold))))))) | ((k_here; (with_reducible show wpAny _ _ (binaryOp Operator.Add (Value.str _ _) (Value.str _ _)) _ _ _); k_dflt (refine' PyProof.Rows.add_str ?_ ?hqsz; (case hqsz => (simp only [Str.length_append, sizeLine_eq]; (first | lia | omega)))); intro _ _)) | ((with_reducible show wpAny _ _ (call (Value.builtin _) _) _ _ _); (first | ((k_here; (with_reducible show wpAny _ _ (call (Value.builtin "str.join") [Value.str _ _, Value.ref _]) _ _ _); k_dflt (refine' join_listW ?hqk1 ?hqk2 ?hqk3 ?hqk4 ?_; (case hqk1 => exact News.isList (by k_asm) (by k_mem)); (case hqk2 => assumption); (case hqk3 => decide +kernel); (case hqk4 => assumption)); intro _ _)) | ((k_here; (with_reducible show wpAny _ _ (call (Value.builtin "len") [Value.ref _]) _ _ _); k_dflt (refine' len_tupM ?hqk1 ?hqk2 ?hqk3 ?hqk4 ?_; (case hqk1 => k_asm); (case hqk2 => k_mem); (case hqk3 => first | exact IntsAre.length (by assumption) | assumption); (case hqk4 => (first | lia | omega))); k_whole)) | ((k_here; (with_reducible show wpAny _ _ (call (Value.builtin "len") [Value.ref _]) _ _ _); k_dflt (refine' len_listM ?hqk1 ?hqk2 ?hqk3 ?hqk4 ?_; (case hqk1 => k_asm); (case hqk2 => k_mem); (case hqk3 => first | exact IntsAre.length (by assumption) | assumption); (case hqk4 => (first | lia | omega))); k_whole)))) | ((with_reducible show wpAny _ _ (newTuple _) _ _ _); ((k_here; k_dflt (refine' kup_newTuple ?hqF ?hqN ?_ ?hqz; (case hqF | hqN => k_asm); (case hqz => kmk_size)); intro _ _ _ _ hq_l1; (try k_lt hq_l1); (try k_sweep)))) | ((k_here; (with_reducible show wpAny _ _ (call (Value.type _) [Value.ref _]) _ _ _); k_dflt (refine' kde_tupleOf ?hqk1 ?hqk2 ?hqk3 ?hqk4 ?hqk5 ?_; (case hqk1 | hqk2 => k_asm); (case hqk3 => exact News.isList (by k_asm) (by k_mem)); (case hqk4 => (simp only [List.size_toArray]; (first | lia | omega))); (case hqk5 => exact rfl); k_whole); intro _ _ _ _ hq_l1; (try k_lt hq_l1); (try k_sweep))))) | ((fail_if_success with_reducible (first | show wpAny _ _ (exec (Stmt.For _ _ _ _ _) _) _ _ _ | show wpAny _ _ (pyIter _) _ _ _ | show wpAny _ _ (exec (Stmt.Assign _ (Expr.ListComp _ _ _ _) _) _) _ _ _ | show wpAny _ _ (eval (Expr.ListComp _ _ _ _) _) _ _ _ | show LCg.CompSrc _ _ _ _ _ _ _ _ _ _ _ _ _ _ | show LCg.CompEnd _ _ _ _ _ _ _ _ _ _ _ _ _ _ | show LCt.CompSrcT _ _ _ _ _ _ _ _ _ _ _ _ _ _ _)); first | walk1 | (dsimp only; walk1)) | (leave1; try dsimp only) | fail))
    k_dflt (refine LCt.ListComp_T (F₀ := by k_asm) (by with_unfolding_all rfl) (by decide) (by rfl) (by decide) (by rfl) ?_)
    (repeat' (first | (k_unfold; (try dsimp only)) | (k_end; wrow_close) | ((with_reducible show wpAny _ _ (execs (_ :: _) _) _ _ (Shared.mk _ _ _ (_ + 1) _)); (with_reducible refine toks_cut ?_); intro _) | ((first | ((with_reducible show wpAny _ _ (subscriptTail _ _ (Value.ref _) _) _ _ _); (first | ((k_here; (with_reducible show wpAny _ _ (subscriptTail _ _ (Value.ref _) (Value.int _ _)) _ _ _); k_dflt (refine' item_refM ?hqk1 ?hqk2 ?hqk4 ?hqk5 ?hqk6 ?_; (case hqk1 => k_asm); (case hqk2 => k_mem); (case hqk4 | hqk5 => (first | lia | omega)); (case hqk6 => assumption)); k_whole)) | ((k_here; (with_reducible show wpAny _ _ (subscriptTail _ (PySem.Expr.Slice none (some _) none _) (Value.ref _) (Value.ref _)) _ _ _); k_dflt (refine' kms_slice_lit ?hqF ?hqN ?hql ?hqp ?hqq ?hqe ?_ ?hqs ?hqt ?hqz; (case hqF | hqN => k_asm); (case hql => exact News.isList (by k_asm) (by k_mem)); (case hqp | hqq => kmk_part); (case hqe => assumption); (case hqs => with_unfolding_all rfl); (case hqt => kmk_pure); (case hqz => (simp only [List.size_toArray, sizeLine_eq]; (first | lia | omega)))); intro _ _ _ _ hq_l1; (try k_lt hq_l1); (try k_sweep))) | ((k_here; (with_reducible show wpAny _ _ (subscriptTail _ _ (Value.ref _) (Value.int 0 _)) _ _ _); k_dflt (refine' item_at0 ?hqk1 ?hqk2 ?_; (case hqk1 => k_asm); (case hqk2 => k_mem)); k_whole)) | ((k_here; (with_reducible show wpAny _ _ (subscriptTail _ _ (Value.ref _) (Value.int _ _)) _ _ _); k_dflt (refine' item_listM ?hqk1 ?hqk2 ?hqk3 ?hqk4 ?hqk5 ?hqk6 ?_; (case hqk1 => k_asm); (case hqk2 => k_mem); (case hqk3 => assumption); (case hqk4 | hqk5 | hqk6 => (first | lia | omega))); k_whole; intro _)) | ((k_here; (with_reducible show wpAny _ _ (subscriptTail _ _ (Value.ref _) (Value.int _ _)) _ _ _); k_dflt (refine' item_tupM ?hqk1 ?hqk2 ?hqk3 ?hqk4 ?hqk5 ?hqk6 ?_; (case hqk1 => k_asm); (case hqk2 => k_mem); (case hqk3 => assumption); (case hqk4 | hqk5 | hqk6 => (first | lia | omega))); k_whole; intro _)))) | ((with_reducible show wpAny _ _ (call (Value.ref _) _) _ _ _); ((k_here; (with_reducible show wpAny _ _ (call (Value.ref 108) _) _ _ _); k_dflt (refine' ct_useI (countOf_ct _ _ _ _ _ _ _ _ _ _) ?kB ?kF ?kX ?kN ?kT ?kk ?kP ?kd ?ku ?_; (((case kB | kF | kX | kN | kT => k_asm); (case kk => first | exact rfl | assumption); (case kP => (first | ((refine ⟨?_, by k_mem⟩; first | assumption | exact IsWord.mono (by assumption) (by (first | exact fun _ h => h | (intro p hp; k_ownIn) | (intro p hp; exact List.mem_append.mpr (.inl hp)) | (intro p hp; exact List.mem_cons_of_mem _ (List.mem_append.mpr (.inl hp))) | (intro p hp; simp only [List.mem_append, List.mem_cons] at *; simp [hp]))))) | (first | exact trivial | assumption | exact Ws.mono (by assumption) (by (first | exact fun _ h => h | (intro p hp; k_ownIn) | (intro p hp; exact List.mem_append.mpr (.inl hp)) | (intro p hp; exact List.mem_cons_of_mem _ (List.mem_append.mpr (.inl hp))) | (intro p hp; simp only [List.mem_append, List.mem_cons] at *; simp [hp])))))); (case kd | ku => (((try dsimp only [ktrTop, Around.deeper, Around.in1] at *); (first | lia | omega)))); k_whole; intro mq_tp mq_hp mq_tkp mq_Fp mq_Np; (try dsimp only); (try k_sweep); (try k_fold))))))) | ((k_here; (with_reducible show wpAny _ _ (binaryOp Operator.Add (Value.str _ _) (Value.str _ _)) _ _ _); k_dflt (refine' PyProof.Rows.add_str ?_ ?hqsz; (case hqsz => (simp only [Str.length_append, sizeLine_eq]; (first | lia | omega)))); intro _ _)) | ((with_reducible show wpAny _ _ (call (Value.builtin _) _) _ _ _); (first | ((k_here; (with_reducible show wpAny _ _ (call (Value.builtin "str.join") [Value.str _ _, Value.ref _]) _ _ _); k_dflt (refine' join_listW ?hqk1 ?hqk2 ?hqk3 ?hqk4 ?_; (case hqk1 => exact News.isList (by k_asm) (by k_mem)); (case hqk2 => assumption); (case hqk3 => decide +kernel); (case hqk4 => assumption)); intro _ _)) | ((k_here; (with_reducible show wpAny _ _ (call (Value.builtin "len") [Value.ref _]) _ _ _); k_dflt (refine' len_tupM ?hqk1 ?hqk2 ?hqk3 ?hqk4 ?_; (case hqk1 => k_asm); (case hqk2 => k_mem); (case hqk3 => first | exact IntsAre.length (by assumption) | assumption); (case hqk4 => (first | lia | omega))); k_whole)) | ((k_here; (with_reducible show wpAny _ _ (call (Value.builtin "len") [Value.ref _]) _ _ _); k_dflt (refine' len_listM ?hqk1 ?hqk2 ?hqk3 ?hqk4 ?_; (case hqk1 => k_asm); (case hqk2 => k_mem); (case hqk3 => first | exact IntsAre.length (by assumption) | assumption); (case hqk4 => (first | lia | omega))); k_whole)))) | ((with_reducible show wpAny _ _ (newTuple _) _ _ _); ((k_here; k_dflt (refine' kup_newTuple ?hqF ?hqN ?_ ?hqz; (case hqF | hqN => k_asm); (case hqz => kmk_size)); intro _ _ _ _ hq_l1; (try k_lt hq_l1); (try k_sweep)))) | ((k_here; (with_reducible show wpAny _ _ (call (Value.type _) [Value.ref _]) _ _ _); k_dflt (refine' kde_tupleOf ?hqk1 ?hqk2 ?hqk3 ?hqk4 ?hqk5 ?_; (case hqk1 | hqk2 => k_asm); (case hqk3 => exact News.isList (by k_asm) (by k_mem)); (case hqk4 => (simp only [List.size_toArray]; (first | lia | omega))); (case hqk5 => exact rfl); k_whole); intro _ _ _ _ hq_l1; (try k_lt hq_l1); (try k_sweep))))) | ((fail_if_success with_reducible (first | show wpAny _ _ (exec (Stmt.For _ _ _ _ _) _) _ _ _ | show wpAny _ _ (pyIter _) _ _ _ | show wpAny _ _ (exec (Stmt.Assign _ (Expr.ListComp _ _ _ _) _) _) _ _ _ | show wpAny _ _ (eval (Expr.ListComp _ _ _ _) _) _ _ _ | show LCg.CompSrc _ _ _ _ _ _ _ _ _ _ _ _ _ _ | show LCg.CompEnd _ _ _ _ _ _ _ _ _ _ _ _ _ _ | show LCt.CompSrcT _ _ _ _ _ _ _ _ _ _ _ _ _ _ _)); first | walk1 | (dsimp only; walk1)) | (leave1; try dsimp only) | fail))
    rename Fr _ _ _ _ => lF2
    rename News _ _ _ _ => lN2
    rename (o1.data = _) => dx1
    with_unfolding_all refine LCt.CompSrcT.ledger (its := (vs.take (i + 1)).toArray) (k := 0) (by rfl) lF2 lN2 (by k_mem) (by rw [List.size_toArray, List.length_take, sizeLine_eq]; (first | lia | omega)) ?_
    intro g2
    refine crT_inv (fun j ys nw2 => nw2 = _ ∧ ys.length = (cnt (ls.take j) li).toNat) ⟨rfl, rfl⟩ ?_ ?_
    · intro j v I oI C oC D2 m₂ ys nw2 h2 tk2 E' hj hv hJ2 hC hx F2 N2 off ne
      obtain ⟨rfl, hJ2⟩ := hJ2
      rw [List.size_toArray, List.length_take] at hj
      have hv' : vs[j]? = some v := by
        have : (vs.take (i + 1))[j]? = some v := by simpa using hv
        rw [List.getElem?_take] at this
        split at this
        · exact this
        · cases this
      obtain ⟨a', n', l', t'', rfl, hm', hl'⟩ := hls.get hv'
      have hct := cnt_take (k := li) hl'
      have hcn : 0 ≤ cnt (ls.take j) li := by unfold cnt; (first | lia | omega)
      have hvi' : vs[(0 + (i : Int)).toNat]? = some (.ref ai) := by rw [show (0 + (i : Int)).toNat = i by (first | lia | omega)]; exact hvi
      try k_fold
      (repeat' (first | (k_unfold; (try dsimp only)) | (k_end; wrow_close) | ((with_reducible show wpAny _ _ (execs (_ :: _) _) _ _ (Shared.mk _ _ _ (_ + 1) _)); (with_reducible refine toks_cut ?_); intro _) | ((first | ((with_reducible show wpAny _ _ (subscriptTail _ _ (Value.ref _) _) _ _ _); (first | ((k_here; (with_reducible show wpAny _ _ (subscriptTail _ _ (Value.ref _) (Value.int _ _)) _ _ _); k_dflt (refine' item_refM ?hqk1 ?hqk2 ?hqk4 ?hqk5 ?hqk6 ?_; (case hqk1 => k_asm); (case hqk2 => k_mem); (case hqk4 | hqk5 => (first | lia | omega)); (case hqk6 => assumption)); k_whole)) | ((k_here; (with_reducible show wpAny _ _ (subscriptTail _ (PySem.Expr.Slice none (some _) none _) (Value.ref _) (Value.ref _)) _ _ _); k_dflt (refine' kms_slice_lit ?hqF ?hqN ?hql ?hqp ?hqq ?hqe ?_ ?hqs ?hqt ?hqz; (case hqF | hqN => k_asm); (case hql => exact News.isList (by k_asm) (by k_mem)); (case hqp | hqq => kmk_part); (case hqe => assumption); (case hqs => with_unfolding_all rfl); (case hqt => kmk_pure); (case hqz => (simp only [List.size_toArray, sizeLine_eq]; (first | lia | omega)))); intro _ _ _ _ hq_l1; (try k_lt hq_l1); (try k_sweep))) | ((k_here; (with_reducible show wpAny _ _ (subscriptTail _ _ (Value.ref _) (Value.int 0 _)) _ _ _); k_dflt (refine' item_at0 ?hqk1 ?hqk2 ?_; (case hqk1 => k_asm); (case hqk2 => k_mem)); k_whole)) | ((k_here; (with_reducible show wpAny _ _ (subscriptTail _ _ (Value.ref _) (Value.int _ _)) _ _ _); k_dflt (refine' item_listM ?hqk1 ?hqk2 ?hqk3 ?hqk4 ?hqk5 ?hqk6 ?_; (case hqk1 => k_asm); (case hqk2 => k_mem); (case hqk3 => assumption); (case hqk4 | hqk5 | hqk6 => (first | lia | omega))); k_whole; intro _)) | ((k_here; (with_reducible show wpAny _ _ (subscriptTail _ _ (Value.ref _) (Value.int _ _)) _ _ _); k_dflt (refine' item_tupM ?hqk1 ?hqk2 ?hqk3 ?hqk4 ?hqk5 ?hqk6 ?_; (case hqk1 => k_asm); (case hqk2 => k_mem); (case hqk3 => assumption); (case hqk4 | hqk5 | hqk6 => (first | lia | omega))); k_whole; intro _)))) | ((with_reducible show wpAny _ _ (call (Value.ref _) _) _ _ _); ((k_here; (with_reducible show wpAny _ _ (call (Value.ref 108) _) _ _ _); k_dflt (refine' ct_useI (countOf_ct _ _ _ _ _ _ _ _ _ _) ?kB ?kF ?kX ?kN ?kT ?kk ?kP ?kd ?ku ?_; (((case kB | kF | kX | kN | kT => k_asm); (case kk => first | exact rfl | assumption); (case kP => (first | ((refine ⟨?_, by k_mem⟩; first | assumption | exact IsWord.mono (by assumption) (by (first | exact fun _ h => h | (intro p hp; k_ownIn) | (intro p hp; exact List.mem_append.mpr (.inl hp)) | (intro p hp; exact List.mem_cons_of_mem _ (List.mem_append.mpr (.inl hp))) | (intro p hp; simp only [List.mem_append, List.mem_cons] at *; simp [hp]))))) | (first | exact trivial | assumption | exact Ws.mono (by assumption) (by (first | exact fun _ h => h | (intro p hp; k_ownIn) | (intro p hp; exact List.mem_append.mpr (.inl hp)) | (intro p hp; exact List.mem_cons_of_mem _ (List.mem_append.mpr (.inl hp))) | (intro p hp; simp only [List.mem_append, List.mem_cons] at *; simp [hp])))))); (case kd | ku => (((try dsimp only [ktrTop, Around.deeper, Around.in1] at *); (first | lia | omega)))); k_whole; intro mq_tp mq_hp mq_tkp mq_Fp mq_Np; (try dsimp only); (try k_sweep); (try k_fold))))))) | ((k_here; (with_reducible show wpAny _ _ (binaryOp Operator.Add (Value.str _ _) (Value.str _ _)) _ _ _); k_dflt (refine' PyProof.Rows.add_str ?_ ?hqsz; (case hqsz => (simp only [Str.length_append, sizeLine_eq]; (first | lia | omega)))); intro _ _)) | ((with_reducible show wpAny _ _ (call (Value.builtin _) _) _ _ _); (first | ((k_here; (with_reducible show wpAny _ _ (call (Value.builtin "str.join") [Value.str _ _, Value.ref _]) _ _ _); k_dflt (refine' join_listW ?hqk1 ?hqk2 ?hqk3 ?hqk4 ?_; (case hqk1 => exact News.isList (by k_asm) (by k_mem)); (case hqk2 => assumption); (case hqk3 => decide +kernel); (case hqk4 => assumption)); intro _ _)) | ((k_here; (with_reducible show wpAny _ _ (call (Value.builtin "len") [Value.ref _]) _ _ _); k_dflt (refine' len_tupM ?hqk1 ?hqk2 ?hqk3 ?hqk4 ?_; (case hqk1 => k_asm); (case hqk2 => k_mem); (case hqk3 => first | exact IntsAre.length (by assumption) | assumption); (case hqk4 => (first | lia | omega))); k_whole)) | ((k_here; (with_reducible show wpAny _ _ (call (Value.builtin "len") [Value.ref _]) _ _ _); k_dflt (refine' len_listM ?hqk1 ?hqk2 ?hqk3 ?hqk4 ?_; (case hqk1 => k_asm); (case hqk2 => k_mem); (case hqk3 => first | exact IntsAre.length (by assumption) | assumption); (case hqk4 => (first | lia | omega))); k_whole)))) | ((with_reducible show wpAny _ _ (newTuple _) _ _ _); ((k_here; k_dflt (refine' kup_newTuple ?hqF ?hqN ?_ ?hqz; (case hqF | hqN => k_asm); (case hqz => kmk_size)); intro _ _ _ _ hq_l1; (try k_lt hq_l1); (try k_sweep)))) | ((k_here; (with_reducible show wpAny _ _ (call (Value.type _) [Value.ref _]) _ _ _); k_dflt (refine' kde_tupleOf ?hqk1 ?hqk2 ?hqk3 ?hqk4 ?hqk5 ?_; (case hqk1 | hqk2 => k_asm); (case hqk3 => exact News.isList (by k_asm) (by k_mem)); (case hqk4 => (simp only [List.size_toArray]; (first | lia | omega))); (case hqk5 => exact rfl); k_whole); intro _ _ _ _ hq_l1; (try k_lt hq_l1); (try k_sweep))))) | ((fail_if_success with_reducible (first | show wpAny _ _ (exec (Stmt.For _ _ _ _ _) _) _ _ _ | show wpAny _ _ (pyIter _) _ _ _ | show wpAny _ _ (exec (Stmt.Assign _ (Expr.ListComp _ _ _ _) _) _) _ _ _ | show wpAny _ _ (eval (Expr.ListComp _ _ _ _) _) _ _ _ | show LCg.CompSrc _ _ _ _ _ _ _ _ _ _ _ _ _ _ | show LCg.CompEnd _ _ _ _ _ _ _ _ _ _ _ _ _ _ | show LCt.CompSrcT _ _ _ _ _ _ _ _ _ _ _ _ _ _ _)); first | walk1 | (dsimp only; walk1)) | (leave1; try dsimp only) | fail))
      · have heq : l' = li := by simp_all
        refine LCg.CompEnd.intro (by k_asm) (by k_asm) _ (fun p hp => hp) off (Or.inr ⟨_, by k_mem, rfl, _, rfl⟩) (And.intro rfl ?_)
        rw [List.length_append, hJ2, hct, if_pos heq]
        show _ + 1 = _
        (first | lia | omega)
      · have heq : ¬ l' = li := by simp_all
        refine LCg.CompEnd.intro (by k_asm) (by k_asm) _ (fun p hp => hp) off (Or.inr ⟨_, by k_mem, rfl, _, rfl⟩) (And.intro rfl ?_)
        rw [hJ2, hct, if_neg heq, Int.add_zero]
    · intro ys nw2 hJ2
      obtain ⟨rfl, hJ2⟩ := hJ2
      have hsz : (vs.take (i + 1)).toArray.size = i + 1 := by rw [List.size_toArray, List.length_take]; (first | lia | omega)
      rw [hsz] at hJ2
      have hct := cnt_take (k := li) hli
      rw [if_pos rfl] at hct
      have hc1 : 0 ≤ cnt (ls.take i) li := by unfold cnt; (first | lia | omega)
      have hc2 : cnt (ls.take (i + 1)) li ≤ 6 := by
        unfold cnt
        have h1 := List.length_filter_le (fun x => decide (x = li)) (ls.take (i + 1))
        have h2 := List.length_take_le (i + 1) ls
        (first | lia | omega)
      unfold LCg.FinE
      intro D2 h2 tk2 F2 N2 o2
      try k_fold
      (repeat' (first | (k_unfold; (try dsimp only)) | (k_end; wrow_close) | ((with_reducible show wpAny _ _ (execs (_ :: _) _) _ _ (Shared.mk _ _ _ (_ + 1) _)); (with_reducible refine toks_cut ?_); intro _) | ((first | ((with_reducible show wpAny _ _ (subscriptTail _ _ (Value.ref _) _) _ _ _); (first | ((k_here; (with_reducible show wpAny _ _ (subscriptTail _ _ (Value.ref _) (Value.int _ _)) _ _ _); k_dflt (refine' item_refM ?hqk1 ?hqk2 ?hqk4 ?hqk5 ?hqk6 ?_; (case hqk1 => k_asm); (case hqk2 => k_mem); (case hqk4 | hqk5 => (first | lia | omega)); (case hqk6 => assumption)); k_whole)) | ((k_here; (with_reducible show wpAny _ _ (subscriptTail _ (PySem.Expr.Slice none (some _) none _) (Value.ref _) (Value.ref _)) _ _ _); k_dflt (refine' kms_slice_lit ?hqF ?hqN ?hql ?hqp ?hqq ?hqe ?_ ?hqs ?hqt ?hqz; (case hqF | hqN => k_asm); (case hql => exact News.isList (by k_asm) (by k_mem)); (case hqp | hqq => kmk_part); (case hqe => assumption); (case hqs => with_unfolding_all rfl); (case hqt => kmk_pure); (case hqz => (simp only [List.size_toArray, sizeLine_eq]; (first | lia | omega)))); intro _ _ _ _ hq_l1; (try k_lt hq_l1); (try k_sweep))) | ((k_here; (with_reducible show wpAny _ _ (subscriptTail _ _ (Value.ref _) (Value.int 0 _)) _ _ _); k_dflt (refine' item_at0 ?hqk1 ?hqk2 ?_; (case hqk1 => k_asm); (case hqk2 => k_mem)); k_whole)) | ((k_here; (with_reducible show wpAny _ _ (subscriptTail _ _ (Value.ref _) (Value.int _ _)) _ _ _); k_dflt (refine' item_listM ?hqk1 ?hqk2 ?hqk3 ?hqk4 ?hqk5 ?hqk6 ?_; (case hqk1 => k_asm); (case hqk2 => k_mem); (case hqk3 => assumption); (case hqk4 | hqk5 | hqk6 => (first | lia | omega))); k_whole; intro _)) | ((k_here; (with_reducible show wpAny _ _ (subscriptTail _ _ (Value.ref _) (Value.int _ _)) _ _ _); k_dflt (refine' item_tupM ?hqk1 ?hqk2 ?hqk3 ?hqk4 ?hqk5 ?hqk6 ?_; (case hqk1 => k_asm); (case hqk2 => k_mem); (case hqk3 => assumption); (case hqk4 | hqk5 | hqk6 => (first | lia | omega))); k_whole; intro _)))) | ((with_reducible show wpAny _ _ (call (Value.ref _) _) _ _ _); ((k_here; (with_reducible show wpAny _ _ (call (Value.ref 108) _) _ _ _); k_dflt (refine' ct_useI (countOf_ct _ _ _ _ _ _ _ _ _ _) ?kB ?kF ?kX ?kN ?kT ?kk ?kP ?kd ?ku ?_; (((case kB | kF | kX | kN | kT => k_asm); (case kk => first | exact rfl | assumption); (case kP => (first | ((refine ⟨?_, by k_mem⟩; first | assumption | exact IsWord.mono (by assumption) (by (first | exact fun _ h => h | (intro p hp; k_ownIn) | (intro p hp; exact List.mem_append.mpr (.inl hp)) | (intro p hp; exact List.mem_cons_of_mem _ (List.mem_append.mpr (.inl hp))) | (intro p hp; simp only [List.mem_append, List.mem_cons] at *; simp [hp]))))) | (first | exact trivial | assumption | exact Ws.mono (by assumption) (by (first | exact fun _ h => h | (intro p hp; k_ownIn) | (intro p hp; exact List.mem_append.mpr (.inl hp)) | (intro p hp; exact List.mem_cons_of_mem _ (List.mem_append.mpr (.inl hp))) | (intro p hp; simp only [List.mem_append, List.mem_cons] at *; simp [hp])))))); (case kd | ku => (((try dsimp only [ktrTop, Around.deeper, Around.in1] at *); (first | lia | omega)))); k_whole; intro mq_tp mq_hp mq_tkp mq_Fp mq_Np; (try dsimp only); (try k_sweep); (try k_fold))))))) | ((k_here; (with_reducible show wpAny _ _ (binaryOp Operator.Add (Value.str _ _) (Value.str _ _)) _ _ _); k_dflt (refine' PyProof.Rows.add_str ?_ ?hqsz; (case hqsz => (simp only [Str.length_append, sizeLine_eq]; (first | lia | omega)))); intro _ _)) | ((with_reducible show wpAny _ _ (call (Value.builtin _) _) _ _ _); (first | ((k_here; (with_reducible show wpAny _ _ (call (Value.builtin "str.join") [Value.str _ _, Value.ref _]) _ _ _); k_dflt (refine' join_listW ?hqk1 ?hqk2 ?hqk3 ?hqk4 ?_; (case hqk1 => exact News.isList (by k_asm) (by k_mem)); (case hqk2 => assumption); (case hqk3 => decide +kernel); (case hqk4 => assumption)); intro _ _)) | ((k_here; (with_reducible show wpAny _ _ (call (Value.builtin "len") [Value.ref _]) _ _ _); k_dflt (refine' len_tupM ?hqk1 ?hqk2 ?hqk3 ?hqk4 ?_; (case hqk1 => k_asm); (case hqk2 => k_mem); (case hqk3 => first | exact IntsAre.length (by assumption) | assumption); (case hqk4 => (first | lia | omega))); k_whole)) | ((k_here; (with_reducible show wpAny _ _ (call (Value.builtin "len") [Value.ref _]) _ _ _); k_dflt (refine' len_listM ?hqk1 ?hqk2 ?hqk3 ?hqk4 ?_; (case hqk1 => k_asm); (case hqk2 => k_mem); (case hqk3 => first | exact IntsAre.length (by assumption) | assumption); (case hqk4 => (first | lia | omega))); k_whole)))) | ((with_reducible show wpAny _ _ (newTuple _) _ _ _); ((k_here; k_dflt (refine' kup_newTuple ?hqF ?hqN ?_ ?hqz; (case hqF | hqN => k_asm); (case hqz => kmk_size)); intro _ _ _ _ hq_l1; (try k_lt hq_l1); (try k_sweep)))) | ((k_here; (with_reducible show wpAny _ _ (call (Value.type _) [Value.ref _]) _ _ _); k_dflt (refine' kde_tupleOf ?hqk1 ?hqk2 ?hqk3 ?hqk4 ?hqk5 ?_; (case hqk1 | hqk2 => k_asm); (case hqk3 => exact News.isList (by k_asm) (by k_mem)); (case hqk4 => (simp only [List.size_toArray]; (first | lia | omega))); (case hqk5 => exact rfl); k_whole); intro _ _ _ _ hq_l1; (try k_lt hq_l1); (try k_sweep))))) | ((fail_if_success with_reducible (first | show wpAny _ _ (exec (Stmt.For _ _ _ _ _) _) _ _ _ | show wpAny _ _ (pyIter _) _ _ _ | show wpAny _ _ (exec (Stmt.Assign _ (Expr.ListComp _ _ _ _) _) _) _ _ _ | show wpAny _ _ (eval (Expr.ListComp _ _ _ _) _) _ _ _ | show LCg.CompSrc _ _ _ _ _ _ _ _ _ _ _ _ _ _ | show LCg.CompEnd _ _ _ _ _ _ _ _ _ _ _ _ _ _ | show LCt.CompSrcT _ _ _ _ _ _ _ _ _ _ _ _ _ _ _)); first | walk1 | (dsimp only; walk1)) | (leave1; try dsimp only) | fail))
      refine lt_end ⟨_, _, _⟩ (by k_asm) (by k_asm) (fun p hp => or_mem1 hp) (fun p hp => or_mem2 hp) hoff (List.forall_mem_cons.mpr ⟨by with_unfolding_all rfl, List.forall_mem_nil _⟩) (by ((intro mq_z mq_h2 mq_h3; (try simp only [List.forall_mem_cons] at mq_h2); first | (simp [kstB, mq_h2, mq_h3]; done) | (simp [kstB, mq_h2]; done) | (simp [kstB]; done) | (simp_all [kstB]; done)))) ⟨?_, _, by assumption⟩
      show _ = (ordW ls i * (0 + (i : Int) + 1)).fdiv (cnt (ls.take (i + 1)) (ls.getD i 0))
      have hg : ls.getD i 0 = li := by simp [List.getD, hli]
      rw [hg, ← hw']
      congr 1
  · intro c u h' tk' hP' F' N'
    try k_fold
    (repeat' (first | (k_unfold; (try dsimp only)) | (k_end; wrow_close) | ((with_reducible show wpAny _ _ (execs (_ :: _) _) _ _ (Shared.mk _ _ _ (_ + 1) _)); (with_reducible refine toks_cut ?_); intro _) | ((first | ((with_reducible show wpAny _ _ (subscriptTail _ _ (Value.ref _) _) _ _ _); (first | ((k_here; (with_reducible show wpAny _ _ (subscriptTail _ _ (Value.ref _) (Value.int _ _)) _ _ _); k_dflt (refine' item_refM ?hqk1 ?hqk2 ?hqk4 ?hqk5 ?hqk6 ?_; (case hqk1 => k_asm); (case hqk2 => k_mem); (case hqk4 | hqk5 => (first | lia | omega)); (case hqk6 => assumption)); k_whole)) | ((k_here; (with_reducible show wpAny _ _ (subscriptTail _ (PySem.Expr.Slice none (some _) none _) (Value.ref _) (Value.ref _)) _ _ _); k_dflt (refine' kms_slice_lit ?hqF ?hqN ?hql ?hqp ?hqq ?hqe ?_ ?hqs ?hqt ?hqz; (case hqF | hqN => k_asm); (case hql => exact News.isList (by k_asm) (by k_mem)); (case hqp | hqq => kmk_part); (case hqe => assumption); (case hqs => with_unfolding_all rfl); (case hqt => kmk_pure); (case hqz => (simp only [List.size_toArray, sizeLine_eq]; (first | lia | omega)))); intro _ _ _ _ hq_l1; (try k_lt hq_l1); (try k_sweep))) | ((k_here; (with_reducible show wpAny _ _ (subscriptTail _ _ (Value.ref _) (Value.int 0 _)) _ _ _); k_dflt (refine' item_at0 ?hqk1 ?hqk2 ?_; (case hqk1 => k_asm); (case hqk2 => k_mem)); k_whole)) | ((k_here; (with_reducible show wpAny _ _ (subscriptTail _ _ (Value.ref _) (Value.int _ _)) _ _ _); k_dflt (refine' item_listM ?hqk1 ?hqk2 ?hqk3 ?hqk4 ?hqk5 ?hqk6 ?_; (case hqk1 => k_asm); (case hqk2 => k_mem); (case hqk3 => assumption); (case hqk4 | hqk5 | hqk6 => (first | lia | omega))); k_whole; intro _)) | ((k_here; (with_reducible show wpAny _ _ (subscriptTail _ _ (Value.ref _) (Value.int _ _)) _ _ _); k_dflt (refine' item_tupM ?hqk1 ?hqk2 ?hqk3 ?hqk4 ?hqk5 ?hqk6 ?_; (case hqk1 => k_asm); (case hqk2 => k_mem); (case hqk3 => assumption); (case hqk4 | hqk5 | hqk6 => (first | lia | omega))); k_whole; intro _)))) | ((with_reducible show wpAny _ _ (call (Value.ref _) _) _ _ _); ((k_here; (with_reducible show wpAny _ _ (call (Value.ref 108) _) _ _ _); k_dflt (refine' ct_useI (countOf_ct _ _ _ _ _ _ _ _ _ _) ?kB ?kF ?kX ?kN ?kT ?kk ?kP ?kd ?ku ?_; (((case kB | kF | kX | kN | kT => k_asm); (case kk => first | exact rfl | assumption); (case kP => (first | ((refine ⟨?_, by k_mem⟩; first | assumption | exact IsWord.mono (by assumption) (by (first | exact fun _ h => h | (intro p hp; k_ownIn) | (intro p hp; exact List.mem_append.mpr (.inl hp)) | (intro p hp; exact List.mem_cons_of_mem _ (List.mem_append.mpr (.inl hp))) | (intro p hp; simp only [List.mem_append, List.mem_cons] at *; simp [hp]))))) | (first | exact trivial | assumption | exact Ws.mono (by assumption) (by (first | exact fun _ h => h | (intro p hp; k_ownIn) | (intro p hp; exact List.mem_append.mpr (.inl hp)) | (intro p hp; exact List.mem_cons_of_mem _ (List.mem_append.mpr (.inl hp))) | (intro p hp; simp only [List.mem_append, List.mem_cons] at *; simp [hp])))))); (case kd | ku => (((try dsimp only [ktrTop, Around.deeper, Around.in1] at *); (first | lia | omega)))); k_whole; intro mq_tp mq_hp mq_tkp mq_Fp mq_Np; (try dsimp only); (try k_sweep); (try k_fold))))))) | ((k_here; (with_reducible show wpAny _ _ (binaryOp Operator.Add (Value.str _ _) (Value.str _ _)) _ _ _); k_dflt (refine' PyProof.Rows.add_str ?_ ?hqsz; (case hqsz => (simp only [Str.length_append, sizeLine_eq]; (first | lia | omega)))); intro _ _)) | ((with_reducible show wpAny _ _ (call (Value.builtin _) _) _ _ _); (first | ((k_here; (with_reducible show wpAny _ _ (call (Value.builtin "str.join") [Value.str _ _, Value.ref _]) _ _ _); k_dflt (refine' join_listW ?hqk1 ?hqk2 ?hqk3 ?hqk4 ?_; (case hqk1 => exact News.isList (by k_asm) (by k_mem)); (case hqk2 => assumption); (case hqk3 => decide +kernel); (case hqk4 => assumption)); intro _ _)) | ((k_here; (with_reducible show wpAny _ _ (call (Value.builtin "len") [Value.ref _]) _ _ _); k_dflt (refine' len_tupM ?hqk1 ?hqk2 ?hqk3 ?hqk4 ?_; (case hqk1 => k_asm); (case hqk2 => k_mem); (case hqk3 => first | exact IntsAre.length (by assumption) | assumption); (case hqk4 => (first | lia | omega))); k_whole)) | ((k_here; (with_reducible show wpAny _ _ (call (Value.builtin "len") [Value.ref _]) _ _ _); k_dflt (refine' len_listM ?hqk1 ?hqk2 ?hqk3 ?hqk4 ?_; (case hqk1 => k_asm); (case hqk2 => k_mem); (case hqk3 => first | exact IntsAre.length (by assumption) | assumption); (case hqk4 => (first | lia | omega))); k_whole)))) | ((with_reducible show wpAny _ _ (newTuple _) _ _ _); ((k_here; k_dflt (refine' kup_newTuple ?hqF ?hqN ?_ ?hqz; (case hqF | hqN => k_asm); (case hqz => kmk_size)); intro _ _ _ _ hq_l1; (try k_lt hq_l1); (try k_sweep)))) | ((k_here; (with_reducible show wpAny _ _ (call (Value.type _) [Value.ref _]) _ _ _); k_dflt (refine' kde_tupleOf ?hqk1 ?hqk2 ?hqk3 ?hqk4 ?hqk5 ?_; (case hqk1 | hqk2 => k_asm); (case hqk3 => exact News.isList (by k_asm) (by k_mem)); (case hqk4 => (simp only [List.size_toArray]; (first | lia | omega))); (case hqk5 => exact rfl); k_whole); intro _ _ _ _ hq_l1; (try k_lt hq_l1); (try k_sweep))))) | ((fail_if_success with_reducible (first | show wpAny _ _ (exec (Stmt.For _ _ _ _ _) _) _ _ _ | show wpAny _ _ (pyIter _) _ _ _ | show wpAny _ _ (exec (Stmt.Assign _ (Expr.ListComp _ _ _ _) _) _) _ _ _ | show wpAny _ _ (eval (Expr.ListComp _ _ _ _) _) _ _ _ | show LCg.CompSrc _ _ _ _ _ _ _ _ _ _ _ _ _ _ | show LCg.CompEnd _ _ _ _ _ _ _ _ _ _ _ _ _ _ | show LCt.CompSrcT _ _ _ _ _ _ _ _ _ _ _ _ _ _ _)); first | walk1 | (dsimp only; walk1)) | (leave1; try dsimp only) | fail))
    have e : c.ways = ordW ls 6 := hP'.1
    exact hret _ [] _ _ (by k_asm) (kst_newsOf (by assumption) (fun p hp => .tail _ (.tail _ hp))) (fun _ _ _ h => nomatch h) ⟨rfl, ktn_int e⟩
def Dj (tl news : Led) : Prop := ∀ q ∈ news, ∀ p ∈ tl, q.1 ≠ p.1
theorem lets_snoc {tw : Led} {zs : List Value} {ls : List Int} {a : Addr} {n : Nat} {l : Int} {t : Tok} (h : Lets tw zs ls) : Lets ((a, listOf #[.int l t] n) :: tw) (zs ++ [.ref a]) (ls ++ [l]) := by
  have key : ∀ {tw' : Led} {zs : List Value} {ls : List Int}, Lets tw' zs ls → (a, listOf #[.int l t] n) ∈ tw' → Lets tw' (zs ++ [.ref a]) (ls ++ [l]) := by
    intro tw' zs ls h hm
    induction h with
    | nil => exact .cons hm .nil
    | cons hm' _ ih => exact .cons hm' ih
  exact key (h.mono (fun p hp => List.mem_cons_of_mem _ hp)) List.mem_cons_self
theorem dj_cons {p : Addr × Obj} {tw news : Led} (h : Dj tw news) (hp : ∀ q ∈ news, q.1 ≠ p.1) : Dj (p :: tw) news := fun q hq r hr => by
  rcases List.mem_cons.mp hr with rfl | hr
  · exact hp q hq
  · exact h q hq r hr
theorem off1_mem {D : Addr} {l : Led} (h : LCg.Off1 D l) {p : Addr × Obj} (hp : p ∈ l) : D ≠ p.1 := by
  induction l with
  | nil => cases hp
  | cons a r ih =>
    rcases List.mem_cons.mp hp with e | hp
    · rw [e]; exact Ne.symm h.1
    · exact ih h.2 hp
theorem dj_next {D : Addr} {o : Obj} {tw tl news : Led} (h1 : Dj tw news) (h2 : Dj tl news) (h3 : LCg.Off1 D (tw ++ (tl ++ news))) : Dj ((D, o) :: (tw ++ tl)) news := fun q hq p hp => by
  rcases List.mem_cons.mp hp with rfl | hp
  · exact Ne.symm (off1_mem h3 (List.mem_append.mpr (.inr (List.mem_append.mpr (.inr hq)))))
  · rcases List.mem_append.mp hp with hp | hp
    · exact h1 q hq p hp
    · exact h2 q hq p hp
theorem wd_start {h₀ h : Heap} {L D f x y : Addr} {a b c d : Obj} {news : Led} (N : News h₀ L h ((D, a) :: (f, b) :: (x, c) :: (y, d) :: news)) (h1 : ∀ q ∈ news, q.1 ≠ D) (h2 : ∀ q ∈ news, q.1 ≠ f) (h3 : ∀ q ∈ news, q.1 ≠ x) (h4 : ∀ q ∈ news, q.1 ≠ y) :
    ∃ tl, News h₀ L h (tl ++ news) ∧ (D, a) ∈ tl ∧ Dj tl news := by
  refine ⟨[(D, a), (f, b), (x, c), (y, d)], N, .head _, fun q hq p hp => ?_⟩
  simp only [List.mem_cons, List.not_mem_nil, or_false] at hp
  rcases hp with h | h | h | h <;> rw [h]
  · exact h1 q hq
  · exact h2 q hq
  · exact h3 q hq
  · exact h4 q hq
theorem wd_mem {p a b c d : Addr × Obj} {nw : Led} (h : p ∈ a :: b :: c :: d :: nw) : p ∈ d :: a :: b :: c :: nw := by
  simp only [List.mem_cons] at *
  rcases h with h | h | h | h | h <;> simp [h]
theorem wd_mem2 {p d : Addr × Obj} {tw tl news : Led} (h : p ∈ d :: (tw ++ tl) ++ news) : p ∈ d :: (tw ++ (tl ++ news)) := by
  simp only [List.mem_cons, List.mem_append, List.cons_append] at *
  rcases h with h | (h | h) | h <;> simp [h]
theorem ints_at {vs : List Value} {ns : List Int} (h : IntsAre vs ns) : ∀ {i : Nat} {v : Value}, vs[i]? = some v → ∃ t, v = .int (ns.getD i 0) t ∧ ns[i]? = some (ns.getD i 0) := by
  intro i v hv
  obtain ⟨k, t, e, hk⟩ := IntsAre.at h i v hv
  refine ⟨t, ?_, ?_⟩
  · rw [e]; simp [List.getD, hk]
  · simp [List.getD, hk]
theorem words_ct (w : World) (mean : ExcName → Option Value) (mg mb : Str → Option Value) (dp un : Nat) (gd : Option (List Code)) (cn : Str) (cs : Scope) (a : Addr) (ccd : Value) (cl : List (Str × Addr)) (outer : List Env) (A₀ : Around) (base h₀ : Heap) (L : Addr) (m : Str → Option Value) (news : Led) (s : Shared) (Q E : Value → Shared → Prop)
    (B : Below A₀ base outer h₀) (F : Fr h₀ L s.heap m) (X : (Mine.hd.heap_39 w.params).In h₀) (N : News h₀ L s.heap news) (T : Top VW LS mean mg mb h₀) (hk : cs.kind = .function) (hd : dp + 3 < 500) (hu : un + 300 < 5000)
    (as : Addr) (vs : List Value) (ns : List Int) (hL : h₀.IsList as vs.toArray) (hI : IntsAre vs ns) (hn : ns.length ≤ 63)
    (hret : ∀ r tl h' tk', Fr h₀ L h' m → News h₀ L h' (tl ++ news) → (∀ q ∈ news, ∀ p ∈ tl, q.1 ≠ p.1) →
      (∃ wa w0 w1 w2 k, ∃ xs : List Int, r = .ref wa ∧ xs.length = 6 ∧ (wa, listOf #[.ref w0, .ref w1, .ref w2] k) ∈ tl ∧ IsWord tl (.ref w0) (xs.map (fun x => x.fmod 3)) ∧ IsWord tl (.ref w1) (xs.map (fun x => (x.fdiv 3).fmod 3)) ∧ IsWord tl (.ref w2) (xs.map (fun _ => 0))) → Q r { s with heap := h', toks := tk' }) :
    wpAny (model PySem.Challenge.rw_pk0080_01.row.prog w) (ktrTop dp un gd cn cs L a ccd cl outer) (call (.ref 120) [.ref as]) Q E s := by
  revert X
  k_fill
  intro X
  refine wpAny_call ?_
  k_dflt (((refine' code_defC ?k1 ?k2 ?k3 ?k4 ?k5 ?kA ?kF ?kK ?k6 ?k7 ?k8 ?k9 ?kB ?kD ?_ ?c2 ?c3 ?c4; (case kA | kF => exact rfl); (case kK => assumption); (case k1 | k2 | k3 | k4 | k5 => k_asm); (case k6 | k7 => k_is); (case k8 => ktr_room); (case k9 => exact BindsTo.of_eq rfl); (case kB => exact rfl); (case kD => decide +kernel); (case c2 | c3 | c4 => exact rfl); k_whole; intro g' L' mq_hp mq_tkp cells' FG' mq_Fp mq_Np Y' B' X' T' mq_l1; (try k_lt mq_l1); k_cells Y'; (try simp only [List.cons_append, List.nil_append] at mq_Np); (try dsimp only); (try k_fold))))
  rename Fr _ _ _ (bindL _ _ _) => lF
  with_unfolding_all replace lF : Fr _ _ _ (kstB (fun _ => none) []) := lF
  rename Fr h₀ L _ m => FG
  have hLg := hL.at (fun o e => FG.keep _ o e)
  rename (∀ p ∈ news, p.1 < _) => hl1
  obtain ⟨Lc, eL⟩ := pickA hl1
  subst eL
  rename (Obj.data _ = Data.cell _) => d2
  revert d2
  rename (Obj.data _ = Data.cell _) => d1
  intro d2
  obtain ⟨o1, eo1⟩ := pickC d1
  subst eo1
  obtain ⟨o2, eo2⟩ := pickC d2
  subst eo2
  with_unfolding_all replace d1 : o1.data = .cell none := d1
  with_unfolding_all replace d2 : o2.data = .cell (some (.ref as)) := d2
  have hne : ∀ p ∈ news, p.1 ≠ Lc + 1 + 1 := fun p hp => Nat.ne_of_lt (Nat.lt_of_lt_of_le (hl1 p hp) (by (first | lia | omega)))
  (repeat' (first | (k_unfold; (try dsimp only)) | (k_end; wrow_close) | ((with_reducible show wpAny _ _ (execs (_ :: _) _) _ _ (Shared.mk _ _ _ (_ + 1) _)); (with_reducible refine toks_cut ?_); intro _) | ((first | ((with_reducible show wpAny _ _ (call (Value.builtin _) _) _ _ _); (first | ((k_here; (with_reducible show wpAny _ _ (call (Value.builtin "sum") [Value.ref _]) _ _ _); k_dflt (refine' LSm.sum_ints ?hqF ?hqN ?hqh ?hql ?hqi ?_; (case hqF | hqN => k_asm); (case hqh => exact rfl); (case hql => exact News.isList (by k_asm) (by k_mem)); (case hqi => first | assumption | exact ints_pick (by assumption))); intro _ _ _ _ _; (try k_sweep))) | ((k_here; (with_reducible show wpAny _ _ (call (Value.builtin "str.join") [Value.str _ _, Value.ref _]) _ _ _); k_dflt (refine' join_listW ?hqk1 ?hqk2 ?hqk3 ?hqk4 ?_; (case hqk1 => exact News.isList (by k_asm) (by k_mem)); (case hqk2 => assumption); (case hqk3 => decide +kernel); (case hqk4 => assumption)); intro _ _)) | ((k_here; (with_reducible show wpAny _ _ (call (Value.builtin "len") [Value.ref _]) _ _ _); k_dflt (refine' len_tupM ?hqk1 ?hqk2 ?hqk3 ?hqk4 ?_; (case hqk1 => k_asm); (case hqk2 => k_mem); (case hqk3 => first | exact IntsAre.length (by assumption) | assumption); (case hqk4 => (first | lia | omega))); k_whole)) | ((k_here; (with_reducible show wpAny _ _ (call (Value.builtin "len") [Value.ref _]) _ _ _); k_dflt (refine' len_listM ?hqk1 ?hqk2 ?hqk3 ?hqk4 ?_; (case hqk1 => k_asm); (case hqk2 => k_mem); (case hqk3 => first | exact IntsAre.length (by assumption) | assumption); (case hqk4 => (first | lia | omega))); k_whole)))) | ((with_reducible show wpAny _ _ (subscriptTail _ _ (Value.ref _) _) _ _ _); (first | ((k_here; (with_reducible show wpAny _ _ (subscriptTail _ (PySem.Expr.Slice (some _) none (some _) _) (Value.ref _) (Value.ref _)) _ _ _); k_dflt (refine' kmk_slice3_lit ?hqF ?hqN ?hql ?hqp ?hqq ?hqk ?hqo ?hqe ?_ ?hqs ?hqt ?hqz; (case hqF | hqN => k_asm); (case hql => exact Fr.lst (by k_asm) (by k_asm)); (case hqp | hqq | hqk => kmk_part); (case hqo => decide); (case hqe => exact rfl); (case hqs => with_unfolding_all rfl); (case hqt => kmk_pure); (case hqz => (simp only [List.size_toArray, sizeLine_eq]; (first | lia | omega)))); intro _ _ _ _ hq_l1; (try k_lt hq_l1); (try k_sweep))) | ((k_here; (with_reducible show wpAny _ _ (subscriptTail _ _ (Value.ref _) (Value.int _ _)) _ _ _); k_dflt (refine' item_refM ?hqk1 ?hqk2 ?hqk4 ?hqk5 ?hqk6 ?_; (case hqk1 => k_asm); (case hqk2 => k_mem); (case hqk4 | hqk5 => (first | lia | omega)); (case hqk6 => assumption)); k_whole)) | ((k_here; (with_reducible show wpAny _ _ (subscriptTail _ (PySem.Expr.Slice none (some _) none _) (Value.ref _) (Value.ref _)) _ _ _); k_dflt (refine' kms_slice_lit ?hqF ?hqN ?hql ?hqp ?hqq ?hqe ?_ ?hqs ?hqt ?hqz; (case hqF | hqN => k_asm); (case hql => exact News.isList (by k_asm) (by k_mem)); (case hqp | hqq => kmk_part); (case hqe => assumption); (case hqs => with_unfolding_all rfl); (case hqt => kmk_pure); (case hqz => (simp only [List.size_toArray, sizeLine_eq]; (first | lia | omega)))); intro _ _ _ _ hq_l1; (try k_lt hq_l1); (try k_sweep))) | ((k_here; (with_reducible show wpAny _ _ (subscriptTail _ _ (Value.ref _) (Value.int 0 _)) _ _ _); k_dflt (refine' item_at0 ?hqk1 ?hqk2 ?_; (case hqk1 => k_asm); (case hqk2 => k_mem)); k_whole)) | ((k_here; (with_reducible show wpAny _ _ (subscriptTail _ _ (Value.ref _) (Value.int _ _)) _ _ _); k_dflt (refine' item_listM ?hqk1 ?hqk2 ?hqk3 ?hqk4 ?hqk5 ?hqk6 ?_; (case hqk1 => k_asm); (case hqk2 => k_mem); (case hqk3 => assumption); (case hqk4 | hqk5 | hqk6 => (first | lia | omega))); k_whole; intro _)) | ((k_here; (with_reducible show wpAny _ _ (subscriptTail _ _ (Value.ref _) (Value.int _ _)) _ _ _); k_dflt (refine' item_tupM ?hqk1 ?hqk2 ?hqk3 ?hqk4 ?hqk5 ?hqk6 ?_; (case hqk1 => k_asm); (case hqk2 => k_mem); (case hqk3 => assumption); (case hqk4 | hqk5 | hqk6 => (first | lia | omega))); k_whole; intro _)))) | ((with_reducible show wpAny _ _ (call (Value.ref _) _) _ _ _); ((k_here; (with_reducible show wpAny _ _ (call (Value.ref 108) _) _ _ _); k_dflt (refine' ct_useI (countOf_ct _ _ _ _ _ _ _ _ _ _) ?kB ?kF ?kX ?kN ?kT ?kk ?kP ?kd ?ku ?_; (((case kB | kF | kX | kN | kT => k_asm); (case kk => first | exact rfl | assumption); (case kP => (first | ((refine ⟨?_, by k_mem⟩; first | assumption | exact IsWord.mono (by assumption) (by (first | exact fun _ h => h | (intro p hp; k_ownIn) | (intro p hp; exact List.mem_append.mpr (.inl hp)) | (intro p hp; exact List.mem_cons_of_mem _ (List.mem_append.mpr (.inl hp))) | (intro p hp; simp only [List.mem_append, List.mem_cons] at *; simp [hp]))))) | (first | exact trivial | assumption | exact Ws.mono (by assumption) (by (first | exact fun _ h => h | (intro p hp; k_ownIn) | (intro p hp; exact List.mem_append.mpr (.inl hp)) | (intro p hp; exact List.mem_cons_of_mem _ (List.mem_append.mpr (.inl hp))) | (intro p hp; simp only [List.mem_append, List.mem_cons] at *; simp [hp])))))); (case kd | ku => (((try dsimp only [ktrTop, Around.deeper, Around.in1] at *); (first | lia | omega)))); k_whole; intro mq_tp mq_hp mq_tkp mq_Fp mq_Np; (try dsimp only); (try k_sweep); (try k_fold))))))) | ((k_here; (with_reducible show wpAny _ _ (binaryOp Operator.Add (Value.str _ _) (Value.str _ _)) _ _ _); k_dflt (refine' PyProof.Rows.add_str ?_ ?hqsz; (case hqsz => (simp only [Str.length_append, sizeLine_eq]; (first | lia | omega)))); intro _ _)) | ((with_reducible show wpAny _ _ (newTuple _) _ _ _); ((k_here; k_dflt (refine' kup_newTuple ?hqF ?hqN ?_ ?hqz; (case hqF | hqN => k_asm); (case hqz => kmk_size)); intro _ _ _ _ hq_l1; (try k_lt hq_l1); (try k_sweep)))) | ((k_here; (with_reducible show wpAny _ _ (call (Value.type _) [Value.ref _]) _ _ _); k_dflt (refine' kde_tupleOf ?hqk1 ?hqk2 ?hqk3 ?hqk4 ?hqk5 ?_; (case hqk1 | hqk2 => k_asm); (case hqk3 => exact News.isList (by k_asm) (by k_mem)); (case hqk4 => (simp only [List.size_toArray]; (first | lia | omega))); (case hqk5 => exact rfl); k_whole); intro _ _ _ _ hq_l1; (try k_lt hq_l1); (try k_sweep))))) | ((fail_if_success with_reducible (first | show wpAny _ _ (exec (Stmt.For _ _ _ _ _) _) _ _ _ | show wpAny _ _ (pyIter _) _ _ _ | show wpAny _ _ (exec (Stmt.Assign _ (Expr.ListComp _ _ _ _) _) _) _ _ _ | show wpAny _ _ (eval (Expr.ListComp _ _ _ _) _) _ _ _ | show LCg.CompSrc _ _ _ _ _ _ _ _ _ _ _ _ _ _ | show LCg.CompEnd _ _ _ _ _ _ _ _ _ _ _ _ _ _ | show LCt.CompSrcT _ _ _ _ _ _ _ _ _ _ _ _ _ _ _)); first | walk1 | (dsimp only; walk1)) | (leave1; try dsimp only) | fail))
  k_dflt (refine LCg.Assign_ListComp_U (F₀ := by k_asm) (by rfl) (by with_unfolding_all rfl) (by rfl) (by decide) (by rfl) (by decide) (by rfl) (by rfl) (by rfl) ?_)
  (repeat' (first | (k_unfold; (try dsimp only)) | (k_end; wrow_close) | ((with_reducible show wpAny _ _ (execs (_ :: _) _) _ _ (Shared.mk _ _ _ (_ + 1) _)); (with_reducible refine toks_cut ?_); intro _) | ((first | ((with_reducible show wpAny _ _ (call (Value.builtin _) _) _ _ _); (first | ((k_here; (with_reducible show wpAny _ _ (call (Value.builtin "sum") [Value.ref _]) _ _ _); k_dflt (refine' LSm.sum_ints ?hqF ?hqN ?hqh ?hql ?hqi ?_; (case hqF | hqN => k_asm); (case hqh => exact rfl); (case hql => exact News.isList (by k_asm) (by k_mem)); (case hqi => first | assumption | exact ints_pick (by assumption))); intro _ _ _ _ _; (try k_sweep))) | ((k_here; (with_reducible show wpAny _ _ (call (Value.builtin "str.join") [Value.str _ _, Value.ref _]) _ _ _); k_dflt (refine' join_listW ?hqk1 ?hqk2 ?hqk3 ?hqk4 ?_; (case hqk1 => exact News.isList (by k_asm) (by k_mem)); (case hqk2 => assumption); (case hqk3 => decide +kernel); (case hqk4 => assumption)); intro _ _)) | ((k_here; (with_reducible show wpAny _ _ (call (Value.builtin "len") [Value.ref _]) _ _ _); k_dflt (refine' len_tupM ?hqk1 ?hqk2 ?hqk3 ?hqk4 ?_; (case hqk1 => k_asm); (case hqk2 => k_mem); (case hqk3 => first | exact IntsAre.length (by assumption) | assumption); (case hqk4 => (first | lia | omega))); k_whole)) | ((k_here; (with_reducible show wpAny _ _ (call (Value.builtin "len") [Value.ref _]) _ _ _); k_dflt (refine' len_listM ?hqk1 ?hqk2 ?hqk3 ?hqk4 ?_; (case hqk1 => k_asm); (case hqk2 => k_mem); (case hqk3 => first | exact IntsAre.length (by assumption) | assumption); (case hqk4 => (first | lia | omega))); k_whole)))) | ((with_reducible show wpAny _ _ (subscriptTail _ _ (Value.ref _) _) _ _ _); (first | ((k_here; (with_reducible show wpAny _ _ (subscriptTail _ (PySem.Expr.Slice (some _) none (some _) _) (Value.ref _) (Value.ref _)) _ _ _); k_dflt (refine' kmk_slice3_lit ?hqF ?hqN ?hql ?hqp ?hqq ?hqk ?hqo ?hqe ?_ ?hqs ?hqt ?hqz; (case hqF | hqN => k_asm); (case hql => exact Fr.lst (by k_asm) (by k_asm)); (case hqp | hqq | hqk => kmk_part); (case hqo => decide); (case hqe => exact rfl); (case hqs => with_unfolding_all rfl); (case hqt => kmk_pure); (case hqz => (simp only [List.size_toArray, sizeLine_eq]; (first | lia | omega)))); intro _ _ _ _ hq_l1; (try k_lt hq_l1); (try k_sweep))) | ((k_here; (with_reducible show wpAny _ _ (subscriptTail _ _ (Value.ref _) (Value.int _ _)) _ _ _); k_dflt (refine' item_refM ?hqk1 ?hqk2 ?hqk4 ?hqk5 ?hqk6 ?_; (case hqk1 => k_asm); (case hqk2 => k_mem); (case hqk4 | hqk5 => (first | lia | omega)); (case hqk6 => assumption)); k_whole)) | ((k_here; (with_reducible show wpAny _ _ (subscriptTail _ (PySem.Expr.Slice none (some _) none _) (Value.ref _) (Value.ref _)) _ _ _); k_dflt (refine' kms_slice_lit ?hqF ?hqN ?hql ?hqp ?hqq ?hqe ?_ ?hqs ?hqt ?hqz; (case hqF | hqN => k_asm); (case hql => exact News.isList (by k_asm) (by k_mem)); (case hqp | hqq => kmk_part); (case hqe => assumption); (case hqs => with_unfolding_all rfl); (case hqt => kmk_pure); (case hqz => (simp only [List.size_toArray, sizeLine_eq]; (first | lia | omega)))); intro _ _ _ _ hq_l1; (try k_lt hq_l1); (try k_sweep))) | ((k_here; (with_reducible show wpAny _ _ (subscriptTail _ _ (Value.ref _) (Value.int 0 _)) _ _ _); k_dflt (refine' item_at0 ?hqk1 ?hqk2 ?_; (case hqk1 => k_asm); (case hqk2 => k_mem)); k_whole)) | ((k_here; (with_reducible show wpAny _ _ (subscriptTail _ _ (Value.ref _) (Value.int _ _)) _ _ _); k_dflt (refine' item_listM ?hqk1 ?hqk2 ?hqk3 ?hqk4 ?hqk5 ?hqk6 ?_; (case hqk1 => k_asm); (case hqk2 => k_mem); (case hqk3 => assumption); (case hqk4 | hqk5 | hqk6 => (first | lia | omega))); k_whole; intro _)) | ((k_here; (with_reducible show wpAny _ _ (subscriptTail _ _ (Value.ref _) (Value.int _ _)) _ _ _); k_dflt (refine' item_tupM ?hqk1 ?hqk2 ?hqk3 ?hqk4 ?hqk5 ?hqk6 ?_; (case hqk1 => k_asm); (case hqk2 => k_mem); (case hqk3 => assumption); (case hqk4 | hqk5 | hqk6 => (first | lia | omega))); k_whole; intro _)))) | ((with_reducible show wpAny _ _ (call (Value.ref _) _) _ _ _); ((k_here; (with_reducible show wpAny _ _ (call (Value.ref 108) _) _ _ _); k_dflt (refine' ct_useI (countOf_ct _ _ _ _ _ _ _ _ _ _) ?kB ?kF ?kX ?kN ?kT ?kk ?kP ?kd ?ku ?_; (((case kB | kF | kX | kN | kT => k_asm); (case kk => first | exact rfl | assumption); (case kP => (first | ((refine ⟨?_, by k_mem⟩; first | assumption | exact IsWord.mono (by assumption) (by (first | exact fun _ h => h | (intro p hp; k_ownIn) | (intro p hp; exact List.mem_append.mpr (.inl hp)) | (intro p hp; exact List.mem_cons_of_mem _ (List.mem_append.mpr (.inl hp))) | (intro p hp; simp only [List.mem_append, List.mem_cons] at *; simp [hp]))))) | (first | exact trivial | assumption | exact Ws.mono (by assumption) (by (first | exact fun _ h => h | (intro p hp; k_ownIn) | (intro p hp; exact List.mem_append.mpr (.inl hp)) | (intro p hp; exact List.mem_cons_of_mem _ (List.mem_append.mpr (.inl hp))) | (intro p hp; simp only [List.mem_append, List.mem_cons] at *; simp [hp])))))); (case kd | ku => (((try dsimp only [ktrTop, Around.deeper, Around.in1] at *); (first | lia | omega)))); k_whole; intro mq_tp mq_hp mq_tkp mq_Fp mq_Np; (try dsimp only); (try k_sweep); (try k_fold))))))) | ((k_here; (with_reducible show wpAny _ _ (binaryOp Operator.Add (Value.str _ _) (Value.str _ _)) _ _ _); k_dflt (refine' PyProof.Rows.add_str ?_ ?hqsz; (case hqsz => (simp only [Str.length_append, sizeLine_eq]; (first | lia | omega)))); intro _ _)) | ((with_reducible show wpAny _ _ (newTuple _) _ _ _); ((k_here; k_dflt (refine' kup_newTuple ?hqF ?hqN ?_ ?hqz; (case hqF | hqN => k_asm); (case hqz => kmk_size)); intro _ _ _ _ hq_l1; (try k_lt hq_l1); (try k_sweep)))) | ((k_here; (with_reducible show wpAny _ _ (call (Value.type _) [Value.ref _]) _ _ _); k_dflt (refine' kde_tupleOf ?hqk1 ?hqk2 ?hqk3 ?hqk4 ?hqk5 ?_; (case hqk1 | hqk2 => k_asm); (case hqk3 => exact News.isList (by k_asm) (by k_mem)); (case hqk4 => (simp only [List.size_toArray]; (first | lia | omega))); (case hqk5 => exact rfl); k_whole); intro _ _ _ _ hq_l1; (try k_lt hq_l1); (try k_sweep))))) | ((fail_if_success with_reducible (first | show wpAny _ _ (exec (Stmt.For _ _ _ _ _) _) _ _ _ | show wpAny _ _ (pyIter _) _ _ _ | show wpAny _ _ (exec (Stmt.Assign _ (Expr.ListComp _ _ _ _) _) _) _ _ _ | show wpAny _ _ (eval (Expr.ListComp _ _ _ _) _) _ _ _ | show LCg.CompSrc _ _ _ _ _ _ _ _ _ _ _ _ _ _ | show LCg.CompEnd _ _ _ _ _ _ _ _ _ _ _ _ _ _ | show LCt.CompSrcT _ _ _ _ _ _ _ _ _ _ _ _ _ _ _)); first | walk1 | (dsimp only; walk1)) | (leave1; try dsimp only) | fail))
  rename Fr _ _ _ _ => lF
  rename News _ _ _ _ => lN
  rename (Obj.data _ = Data.cell _) => d3
  with_unfolding_all refine LCg.CompSrc.range (by rfl) lF lN (by assumption) (by decide) (rangeSize_nat _ _) (by decide) ?_
  intro g1
  refine cr_inv (fun i ys nw' => nw' = _ ∧ ∃ xs : List Int, xs.length = i ∧ IntsAre ys xs) ⟨rfl, [], rfl, .nil⟩ ?_ ?_
  · intro i v I oI C oC D m₂ ys nw' h tk E' hi hv hJ hC hx F1 N1 off ne
    obtain ⟨t, rfl⟩ := hv
    obtain ⟨rfl, xs, hxl, hxi⟩ := hJ
    have hi6 : i < 6 := hi
    have hvl := hI.length
    try k_fold
    (repeat' (first | (k_unfold; (try dsimp only)) | (k_end; wrow_close) | ((with_reducible show wpAny _ _ (execs (_ :: _) _) _ _ (Shared.mk _ _ _ (_ + 1) _)); (with_reducible refine toks_cut ?_); intro _) | ((first | ((with_reducible show wpAny _ _ (call (Value.builtin _) _) _ _ _); (first | ((k_here; (with_reducible show wpAny _ _ (call (Value.builtin "sum") [Value.ref _]) _ _ _); k_dflt (refine' LSm.sum_ints ?hqF ?hqN ?hqh ?hql ?hqi ?_; (case hqF | hqN => k_asm); (case hqh => exact rfl); (case hql => exact News.isList (by k_asm) (by k_mem)); (case hqi => first | assumption | exact ints_pick (by assumption))); intro _ _ _ _ _; (try k_sweep))) | ((k_here; (with_reducible show wpAny _ _ (call (Value.builtin "str.join") [Value.str _ _, Value.ref _]) _ _ _); k_dflt (refine' join_listW ?hqk1 ?hqk2 ?hqk3 ?hqk4 ?_; (case hqk1 => exact News.isList (by k_asm) (by k_mem)); (case hqk2 => assumption); (case hqk3 => decide +kernel); (case hqk4 => assumption)); intro _ _)) | ((k_here; (with_reducible show wpAny _ _ (call (Value.builtin "len") [Value.ref _]) _ _ _); k_dflt (refine' len_tupM ?hqk1 ?hqk2 ?hqk3 ?hqk4 ?_; (case hqk1 => k_asm); (case hqk2 => k_mem); (case hqk3 => first | exact IntsAre.length (by assumption) | assumption); (case hqk4 => (first | lia | omega))); k_whole)) | ((k_here; (with_reducible show wpAny _ _ (call (Value.builtin "len") [Value.ref _]) _ _ _); k_dflt (refine' len_listM ?hqk1 ?hqk2 ?hqk3 ?hqk4 ?_; (case hqk1 => k_asm); (case hqk2 => k_mem); (case hqk3 => first | exact IntsAre.length (by assumption) | assumption); (case hqk4 => (first | lia | omega))); k_whole)))) | ((with_reducible show wpAny _ _ (subscriptTail _ _ (Value.ref _) _) _ _ _); (first | ((k_here; (with_reducible show wpAny _ _ (subscriptTail _ (PySem.Expr.Slice (some _) none (some _) _) (Value.ref _) (Value.ref _)) _ _ _); k_dflt (refine' kmk_slice3_lit ?hqF ?hqN ?hql ?hqp ?hqq ?hqk ?hqo ?hqe ?_ ?hqs ?hqt ?hqz; (case hqF | hqN => k_asm); (case hql => exact Fr.lst (by k_asm) (by k_asm)); (case hqp | hqq | hqk => kmk_part); (case hqo => decide); (case hqe => exact rfl); (case hqs => with_unfolding_all rfl); (case hqt => kmk_pure); (case hqz => (simp only [List.size_toArray, sizeLine_eq]; (first | lia | omega)))); intro _ _ _ _ hq_l1; (try k_lt hq_l1); (try k_sweep))) | ((k_here; (with_reducible show wpAny _ _ (subscriptTail _ _ (Value.ref _) (Value.int _ _)) _ _ _); k_dflt (refine' item_refM ?hqk1 ?hqk2 ?hqk4 ?hqk5 ?hqk6 ?_; (case hqk1 => k_asm); (case hqk2 => k_mem); (case hqk4 | hqk5 => (first | lia | omega)); (case hqk6 => assumption)); k_whole)) | ((k_here; (with_reducible show wpAny _ _ (subscriptTail _ (PySem.Expr.Slice none (some _) none _) (Value.ref _) (Value.ref _)) _ _ _); k_dflt (refine' kms_slice_lit ?hqF ?hqN ?hql ?hqp ?hqq ?hqe ?_ ?hqs ?hqt ?hqz; (case hqF | hqN => k_asm); (case hql => exact News.isList (by k_asm) (by k_mem)); (case hqp | hqq => kmk_part); (case hqe => assumption); (case hqs => with_unfolding_all rfl); (case hqt => kmk_pure); (case hqz => (simp only [List.size_toArray, sizeLine_eq]; (first | lia | omega)))); intro _ _ _ _ hq_l1; (try k_lt hq_l1); (try k_sweep))) | ((k_here; (with_reducible show wpAny _ _ (subscriptTail _ _ (Value.ref _) (Value.int 0 _)) _ _ _); k_dflt (refine' item_at0 ?hqk1 ?hqk2 ?_; (case hqk1 => k_asm); (case hqk2 => k_mem)); k_whole)) | ((k_here; (with_reducible show wpAny _ _ (subscriptTail _ _ (Value.ref _) (Value.int _ _)) _ _ _); k_dflt (refine' item_listM ?hqk1 ?hqk2 ?hqk3 ?hqk4 ?hqk5 ?hqk6 ?_; (case hqk1 => k_asm); (case hqk2 => k_mem); (case hqk3 => assumption); (case hqk4 | hqk5 | hqk6 => (first | lia | omega))); k_whole; intro _)) | ((k_here; (with_reducible show wpAny _ _ (subscriptTail _ _ (Value.ref _) (Value.int _ _)) _ _ _); k_dflt (refine' item_tupM ?hqk1 ?hqk2 ?hqk3 ?hqk4 ?hqk5 ?hqk6 ?_; (case hqk1 => k_asm); (case hqk2 => k_mem); (case hqk3 => assumption); (case hqk4 | hqk5 | hqk6 => (first | lia | omega))); k_whole; intro _)))) | ((with_reducible show wpAny _ _ (call (Value.ref _) _) _ _ _); ((k_here; (with_reducible show wpAny _ _ (call (Value.ref 108) _) _ _ _); k_dflt (refine' ct_useI (countOf_ct _ _ _ _ _ _ _ _ _ _) ?kB ?kF ?kX ?kN ?kT ?kk ?kP ?kd ?ku ?_; (((case kB | kF | kX | kN | kT => k_asm); (case kk => first | exact rfl | assumption); (case kP => (first | ((refine ⟨?_, by k_mem⟩; first | assumption | exact IsWord.mono (by assumption) (by (first | exact fun _ h => h | (intro p hp; k_ownIn) | (intro p hp; exact List.mem_append.mpr (.inl hp)) | (intro p hp; exact List.mem_cons_of_mem _ (List.mem_append.mpr (.inl hp))) | (intro p hp; simp only [List.mem_append, List.mem_cons] at *; simp [hp]))))) | (first | exact trivial | assumption | exact Ws.mono (by assumption) (by (first | exact fun _ h => h | (intro p hp; k_ownIn) | (intro p hp; exact List.mem_append.mpr (.inl hp)) | (intro p hp; exact List.mem_cons_of_mem _ (List.mem_append.mpr (.inl hp))) | (intro p hp; simp only [List.mem_append, List.mem_cons] at *; simp [hp])))))); (case kd | ku => (((try dsimp only [ktrTop, Around.deeper, Around.in1] at *); (first | lia | omega)))); k_whole; intro mq_tp mq_hp mq_tkp mq_Fp mq_Np; (try dsimp only); (try k_sweep); (try k_fold))))))) | ((k_here; (with_reducible show wpAny _ _ (binaryOp Operator.Add (Value.str _ _) (Value.str _ _)) _ _ _); k_dflt (refine' PyProof.Rows.add_str ?_ ?hqsz; (case hqsz => (simp only [Str.length_append, sizeLine_eq]; (first | lia | omega)))); intro _ _)) | ((with_reducible show wpAny _ _ (newTuple _) _ _ _); ((k_here; k_dflt (refine' kup_newTuple ?hqF ?hqN ?_ ?hqz; (case hqF | hqN => k_asm); (case hqz => kmk_size)); intro _ _ _ _ hq_l1; (try k_lt hq_l1); (try k_sweep)))) | ((k_here; (with_reducible show wpAny _ _ (call (Value.type _) [Value.ref _]) _ _ _); k_dflt (refine' kde_tupleOf ?hqk1 ?hqk2 ?hqk3 ?hqk4 ?hqk5 ?_; (case hqk1 | hqk2 => k_asm); (case hqk3 => exact News.isList (by k_asm) (by k_mem)); (case hqk4 => (simp only [List.size_toArray]; (first | lia | omega))); (case hqk5 => exact rfl); k_whole); intro _ _ _ _ hq_l1; (try k_lt hq_l1); (try k_sweep))))) | ((fail_if_success with_reducible (first | show wpAny _ _ (exec (Stmt.For _ _ _ _ _) _) _ _ _ | show wpAny _ _ (pyIter _) _ _ _ | show wpAny _ _ (exec (Stmt.Assign _ (Expr.ListComp _ _ _ _) _) _) _ _ _ | show wpAny _ _ (eval (Expr.ListComp _ _ _ _) _) _ _ _ | show LCg.CompSrc _ _ _ _ _ _ _ _ _ _ _ _ _ _ | show LCg.CompEnd _ _ _ _ _ _ _ _ _ _ _ _ _ _ | show LCt.CompSrcT _ _ _ _ _ _ _ _ _ _ _ _ _ _ _)); first | walk1 | (dsimp only; walk1)) | (leave1; try dsimp only) | fail))
    exact LCg.CompEnd.intro (by k_asm) (by assumption) _ (fun p hp => List.mem_cons_of_mem _ hp) off trivial (And.intro rfl ⟨xs ++ [_], by rw [List.length_append, hxl]; rfl, IntsAre.append hxi (.cons _ _ .nil)⟩)
  · intro ys nw' hJ
    obtain ⟨rfl, xs, hxl, hxi⟩ := hJ
    replace hxl : xs.length = 6 := hxl
    have hyl : ys.length = 6 := by rw [hxi.length, hxl]
    unfold LCg.FinA
    intro D h tk F1 N1 o1
    rename (Lc + 1 + 1 < _ ∧ Lc + 1 < _ ∧ AllLt _ news) => hlf
    obtain ⟨tl0, N1', hnum0, dj0⟩ := wd_start N1 (fun q hq => Ne.symm (off1_mem o1 (List.mem_cons_of_mem _ (List.mem_cons_of_mem _ (List.mem_cons_of_mem _ hq))))) (fun q hq => Nat.ne_of_lt (ktn_ltOf hlf.2.2 q hq)) (fun q hq => Nat.ne_of_lt (Nat.lt_trans (hl1 q hq) (Nat.lt_trans (Nat.lt_succ_self _) (Nat.lt_succ_self _)))) (fun q hq => Nat.ne_of_lt (Nat.lt_trans (hl1 q hq) (Nat.lt_succ_self _)))
    clear o1 N1
    try k_fold
    (repeat' (first | (k_unfold; (try dsimp only)) | (k_end; wrow_close) | ((with_reducible show wpAny _ _ (execs (_ :: _) _) _ _ (Shared.mk _ _ _ (_ + 1) _)); (with_reducible refine toks_cut ?_); intro _) | ((first | ((with_reducible show wpAny _ _ (call (Value.builtin _) _) _ _ _); (first | ((k_here; (with_reducible show wpAny _ _ (call (Value.builtin "sum") [Value.ref _]) _ _ _); k_dflt (refine' LSm.sum_ints ?hqF ?hqN ?hqh ?hql ?hqi ?_; (case hqF | hqN => k_asm); (case hqh => exact rfl); (case hql => exact News.isList (by k_asm) (by k_mem)); (case hqi => first | assumption | exact ints_pick (by assumption))); intro _ _ _ _ _; (try k_sweep))) | ((k_here; (with_reducible show wpAny _ _ (call (Value.builtin "str.join") [Value.str _ _, Value.ref _]) _ _ _); k_dflt (refine' join_listW ?hqk1 ?hqk2 ?hqk3 ?hqk4 ?_; (case hqk1 => exact News.isList (by k_asm) (by k_mem)); (case hqk2 => assumption); (case hqk3 => decide +kernel); (case hqk4 => assumption)); intro _ _)) | ((k_here; (with_reducible show wpAny _ _ (call (Value.builtin "len") [Value.ref _]) _ _ _); k_dflt (refine' len_tupM ?hqk1 ?hqk2 ?hqk3 ?hqk4 ?_; (case hqk1 => k_asm); (case hqk2 => k_mem); (case hqk3 => first | exact IntsAre.length (by assumption) | assumption); (case hqk4 => (first | lia | omega))); k_whole)) | ((k_here; (with_reducible show wpAny _ _ (call (Value.builtin "len") [Value.ref _]) _ _ _); k_dflt (refine' len_listM ?hqk1 ?hqk2 ?hqk3 ?hqk4 ?_; (case hqk1 => k_asm); (case hqk2 => k_mem); (case hqk3 => first | exact IntsAre.length (by assumption) | assumption); (case hqk4 => (first | lia | omega))); k_whole)))) | ((with_reducible show wpAny _ _ (subscriptTail _ _ (Value.ref _) _) _ _ _); (first | ((k_here; (with_reducible show wpAny _ _ (subscriptTail _ (PySem.Expr.Slice (some _) none (some _) _) (Value.ref _) (Value.ref _)) _ _ _); k_dflt (refine' kmk_slice3_lit ?hqF ?hqN ?hql ?hqp ?hqq ?hqk ?hqo ?hqe ?_ ?hqs ?hqt ?hqz; (case hqF | hqN => k_asm); (case hql => exact Fr.lst (by k_asm) (by k_asm)); (case hqp | hqq | hqk => kmk_part); (case hqo => decide); (case hqe => exact rfl); (case hqs => with_unfolding_all rfl); (case hqt => kmk_pure); (case hqz => (simp only [List.size_toArray, sizeLine_eq]; (first | lia | omega)))); intro _ _ _ _ hq_l1; (try k_lt hq_l1); (try k_sweep))) | ((k_here; (with_reducible show wpAny _ _ (subscriptTail _ _ (Value.ref _) (Value.int _ _)) _ _ _); k_dflt (refine' item_refM ?hqk1 ?hqk2 ?hqk4 ?hqk5 ?hqk6 ?_; (case hqk1 => k_asm); (case hqk2 => k_mem); (case hqk4 | hqk5 => (first | lia | omega)); (case hqk6 => assumption)); k_whole)) | ((k_here; (with_reducible show wpAny _ _ (subscriptTail _ (PySem.Expr.Slice none (some _) none _) (Value.ref _) (Value.ref _)) _ _ _); k_dflt (refine' kms_slice_lit ?hqF ?hqN ?hql ?hqp ?hqq ?hqe ?_ ?hqs ?hqt ?hqz; (case hqF | hqN => k_asm); (case hql => exact News.isList (by k_asm) (by k_mem)); (case hqp | hqq => kmk_part); (case hqe => assumption); (case hqs => with_unfolding_all rfl); (case hqt => kmk_pure); (case hqz => (simp only [List.size_toArray, sizeLine_eq]; (first | lia | omega)))); intro _ _ _ _ hq_l1; (try k_lt hq_l1); (try k_sweep))) | ((k_here; (with_reducible show wpAny _ _ (subscriptTail _ _ (Value.ref _) (Value.int 0 _)) _ _ _); k_dflt (refine' item_at0 ?hqk1 ?hqk2 ?_; (case hqk1 => k_asm); (case hqk2 => k_mem)); k_whole)) | ((k_here; (with_reducible show wpAny _ _ (subscriptTail _ _ (Value.ref _) (Value.int _ _)) _ _ _); k_dflt (refine' item_listM ?hqk1 ?hqk2 ?hqk3 ?hqk4 ?hqk5 ?hqk6 ?_; (case hqk1 => k_asm); (case hqk2 => k_mem); (case hqk3 => assumption); (case hqk4 | hqk5 | hqk6 => (first | lia | omega))); k_whole; intro _)) | ((k_here; (with_reducible show wpAny _ _ (subscriptTail _ _ (Value.ref _) (Value.int _ _)) _ _ _); k_dflt (refine' item_tupM ?hqk1 ?hqk2 ?hqk3 ?hqk4 ?hqk5 ?hqk6 ?_; (case hqk1 => k_asm); (case hqk2 => k_mem); (case hqk3 => assumption); (case hqk4 | hqk5 | hqk6 => (first | lia | omega))); k_whole; intro _)))) | ((with_reducible show wpAny _ _ (call (Value.ref _) _) _ _ _); ((k_here; (with_reducible show wpAny _ _ (call (Value.ref 108) _) _ _ _); k_dflt (refine' ct_useI (countOf_ct _ _ _ _ _ _ _ _ _ _) ?kB ?kF ?kX ?kN ?kT ?kk ?kP ?kd ?ku ?_; (((case kB | kF | kX | kN | kT => k_asm); (case kk => first | exact rfl | assumption); (case kP => (first | ((refine ⟨?_, by k_mem⟩; first | assumption | exact IsWord.mono (by assumption) (by (first | exact fun _ h => h | (intro p hp; k_ownIn) | (intro p hp; exact List.mem_append.mpr (.inl hp)) | (intro p hp; exact List.mem_cons_of_mem _ (List.mem_append.mpr (.inl hp))) | (intro p hp; simp only [List.mem_append, List.mem_cons] at *; simp [hp]))))) | (first | exact trivial | assumption | exact Ws.mono (by assumption) (by (first | exact fun _ h => h | (intro p hp; k_ownIn) | (intro p hp; exact List.mem_append.mpr (.inl hp)) | (intro p hp; exact List.mem_cons_of_mem _ (List.mem_append.mpr (.inl hp))) | (intro p hp; simp only [List.mem_append, List.mem_cons] at *; simp [hp])))))); (case kd | ku => (((try dsimp only [ktrTop, Around.deeper, Around.in1] at *); (first | lia | omega)))); k_whole; intro mq_tp mq_hp mq_tkp mq_Fp mq_Np; (try dsimp only); (try k_sweep); (try k_fold))))))) | ((k_here; (with_reducible show wpAny _ _ (binaryOp Operator.Add (Value.str _ _) (Value.str _ _)) _ _ _); k_dflt (refine' PyProof.Rows.add_str ?_ ?hqsz; (case hqsz => (simp only [Str.length_append, sizeLine_eq]; (first | lia | omega)))); intro _ _)) | ((with_reducible show wpAny _ _ (newTuple _) _ _ _); ((k_here; k_dflt (refine' kup_newTuple ?hqF ?hqN ?_ ?hqz; (case hqF | hqN => k_asm); (case hqz => kmk_size)); intro _ _ _ _ hq_l1; (try k_lt hq_l1); (try k_sweep)))) | ((k_here; (with_reducible show wpAny _ _ (call (Value.type _) [Value.ref _]) _ _ _); k_dflt (refine' kde_tupleOf ?hqk1 ?hqk2 ?hqk3 ?hqk4 ?hqk5 ?_; (case hqk1 | hqk2 => k_asm); (case hqk3 => exact News.isList (by k_asm) (by k_mem)); (case hqk4 => (simp only [List.size_toArray]; (first | lia | omega))); (case hqk5 => exact rfl); k_whole); intro _ _ _ _ hq_l1; (try k_lt hq_l1); (try k_sweep))))) | ((fail_if_success with_reducible (first | show wpAny _ _ (exec (Stmt.For _ _ _ _ _) _) _ _ _ | show wpAny _ _ (pyIter _) _ _ _ | show wpAny _ _ (exec (Stmt.Assign _ (Expr.ListComp _ _ _ _) _) _) _ _ _ | show wpAny _ _ (eval (Expr.ListComp _ _ _ _) _) _ _ _ | show LCg.CompSrc _ _ _ _ _ _ _ _ _ _ _ _ _ _ | show LCg.CompEnd _ _ _ _ _ _ _ _ _ _ _ _ _ _ | show LCt.CompSrcT _ _ _ _ _ _ _ _ _ _ _ _ _ _ _)); first | walk1 | (dsimp only; walk1)) | (leave1; try dsimp only) | fail))
    k_dflt (refine LCg.ListComp_U (F₀ := by k_asm) (by rfl) (by decide) (by rfl) (by decide) (by rfl) ?_)
    (repeat' (first | (k_unfold; (try dsimp only)) | (k_end; wrow_close) | ((with_reducible show wpAny _ _ (execs (_ :: _) _) _ _ (Shared.mk _ _ _ (_ + 1) _)); (with_reducible refine toks_cut ?_); intro _) | ((first | ((with_reducible show wpAny _ _ (call (Value.builtin _) _) _ _ _); (first | ((k_here; (with_reducible show wpAny _ _ (call (Value.builtin "sum") [Value.ref _]) _ _ _); k_dflt (refine' LSm.sum_ints ?hqF ?hqN ?hqh ?hql ?hqi ?_; (case hqF | hqN => k_asm); (case hqh => exact rfl); (case hql => exact News.isList (by k_asm) (by k_mem)); (case hqi => first | assumption | exact ints_pick (by assumption))); intro _ _ _ _ _; (try k_sweep))) | ((k_here; (with_reducible show wpAny _ _ (call (Value.builtin "str.join") [Value.str _ _, Value.ref _]) _ _ _); k_dflt (refine' join_listW ?hqk1 ?hqk2 ?hqk3 ?hqk4 ?_; (case hqk1 => exact News.isList (by k_asm) (by k_mem)); (case hqk2 => assumption); (case hqk3 => decide +kernel); (case hqk4 => assumption)); intro _ _)) | ((k_here; (with_reducible show wpAny _ _ (call (Value.builtin "len") [Value.ref _]) _ _ _); k_dflt (refine' len_tupM ?hqk1 ?hqk2 ?hqk3 ?hqk4 ?_; (case hqk1 => k_asm); (case hqk2 => k_mem); (case hqk3 => first | exact IntsAre.length (by assumption) | assumption); (case hqk4 => (first | lia | omega))); k_whole)) | ((k_here; (with_reducible show wpAny _ _ (call (Value.builtin "len") [Value.ref _]) _ _ _); k_dflt (refine' len_listM ?hqk1 ?hqk2 ?hqk3 ?hqk4 ?_; (case hqk1 => k_asm); (case hqk2 => k_mem); (case hqk3 => first | exact IntsAre.length (by assumption) | assumption); (case hqk4 => (first | lia | omega))); k_whole)))) | ((with_reducible show wpAny _ _ (subscriptTail _ _ (Value.ref _) _) _ _ _); (first | ((k_here; (with_reducible show wpAny _ _ (subscriptTail _ (PySem.Expr.Slice (some _) none (some _) _) (Value.ref _) (Value.ref _)) _ _ _); k_dflt (refine' kmk_slice3_lit ?hqF ?hqN ?hql ?hqp ?hqq ?hqk ?hqo ?hqe ?_ ?hqs ?hqt ?hqz; (case hqF | hqN => k_asm); (case hql => exact Fr.lst (by k_asm) (by k_asm)); (case hqp | hqq | hqk => kmk_part); (case hqo => decide); (case hqe => exact rfl); (case hqs => with_unfolding_all rfl); (case hqt => kmk_pure); (case hqz => (simp only [List.size_toArray, sizeLine_eq]; (first | lia | omega)))); intro _ _ _ _ hq_l1; (try k_lt hq_l1); (try k_sweep))) | ((k_here; (with_reducible show wpAny _ _ (subscriptTail _ _ (Value.ref _) (Value.int _ _)) _ _ _); k_dflt (refine' item_refM ?hqk1 ?hqk2 ?hqk4 ?hqk5 ?hqk6 ?_; (case hqk1 => k_asm); (case hqk2 => k_mem); (case hqk4 | hqk5 => (first | lia | omega)); (case hqk6 => assumption)); k_whole)) | ((k_here; (with_reducible show wpAny _ _ (subscriptTail _ (PySem.Expr.Slice none (some _) none _) (Value.ref _) (Value.ref _)) _ _ _); k_dflt (refine' kms_slice_lit ?hqF ?hqN ?hql ?hqp ?hqq ?hqe ?_ ?hqs ?hqt ?hqz; (case hqF | hqN => k_asm); (case hql => exact News.isList (by k_asm) (by k_mem)); (case hqp | hqq => kmk_part); (case hqe => assumption); (case hqs => with_unfolding_all rfl); (case hqt => kmk_pure); (case hqz => (simp only [List.size_toArray, sizeLine_eq]; (first | lia | omega)))); intro _ _ _ _ hq_l1; (try k_lt hq_l1); (try k_sweep))) | ((k_here; (with_reducible show wpAny _ _ (subscriptTail _ _ (Value.ref _) (Value.int 0 _)) _ _ _); k_dflt (refine' item_at0 ?hqk1 ?hqk2 ?_; (case hqk1 => k_asm); (case hqk2 => k_mem)); k_whole)) | ((k_here; (with_reducible show wpAny _ _ (subscriptTail _ _ (Value.ref _) (Value.int _ _)) _ _ _); k_dflt (refine' item_listM ?hqk1 ?hqk2 ?hqk3 ?hqk4 ?hqk5 ?hqk6 ?_; (case hqk1 => k_asm); (case hqk2 => k_mem); (case hqk3 => assumption); (case hqk4 | hqk5 | hqk6 => (first | lia | omega))); k_whole; intro _)) | ((k_here; (with_reducible show wpAny _ _ (subscriptTail _ _ (Value.ref _) (Value.int _ _)) _ _ _); k_dflt (refine' item_tupM ?hqk1 ?hqk2 ?hqk3 ?hqk4 ?hqk5 ?hqk6 ?_; (case hqk1 => k_asm); (case hqk2 => k_mem); (case hqk3 => assumption); (case hqk4 | hqk5 | hqk6 => (first | lia | omega))); k_whole; intro _)))) | ((with_reducible show wpAny _ _ (call (Value.ref _) _) _ _ _); ((k_here; (with_reducible show wpAny _ _ (call (Value.ref 108) _) _ _ _); k_dflt (refine' ct_useI (countOf_ct _ _ _ _ _ _ _ _ _ _) ?kB ?kF ?kX ?kN ?kT ?kk ?kP ?kd ?ku ?_; (((case kB | kF | kX | kN | kT => k_asm); (case kk => first | exact rfl | assumption); (case kP => (first | ((refine ⟨?_, by k_mem⟩; first | assumption | exact IsWord.mono (by assumption) (by (first | exact fun _ h => h | (intro p hp; k_ownIn) | (intro p hp; exact List.mem_append.mpr (.inl hp)) | (intro p hp; exact List.mem_cons_of_mem _ (List.mem_append.mpr (.inl hp))) | (intro p hp; simp only [List.mem_append, List.mem_cons] at *; simp [hp]))))) | (first | exact trivial | assumption | exact Ws.mono (by assumption) (by (first | exact fun _ h => h | (intro p hp; k_ownIn) | (intro p hp; exact List.mem_append.mpr (.inl hp)) | (intro p hp; exact List.mem_cons_of_mem _ (List.mem_append.mpr (.inl hp))) | (intro p hp; simp only [List.mem_append, List.mem_cons] at *; simp [hp])))))); (case kd | ku => (((try dsimp only [ktrTop, Around.deeper, Around.in1] at *); (first | lia | omega)))); k_whole; intro mq_tp mq_hp mq_tkp mq_Fp mq_Np; (try dsimp only); (try k_sweep); (try k_fold))))))) | ((k_here; (with_reducible show wpAny _ _ (binaryOp Operator.Add (Value.str _ _) (Value.str _ _)) _ _ _); k_dflt (refine' PyProof.Rows.add_str ?_ ?hqsz; (case hqsz => (simp only [Str.length_append, sizeLine_eq]; (first | lia | omega)))); intro _ _)) | ((with_reducible show wpAny _ _ (newTuple _) _ _ _); ((k_here; k_dflt (refine' kup_newTuple ?hqF ?hqN ?_ ?hqz; (case hqF | hqN => k_asm); (case hqz => kmk_size)); intro _ _ _ _ hq_l1; (try k_lt hq_l1); (try k_sweep)))) | ((k_here; (with_reducible show wpAny _ _ (call (Value.type _) [Value.ref _]) _ _ _); k_dflt (refine' kde_tupleOf ?hqk1 ?hqk2 ?hqk3 ?hqk4 ?hqk5 ?_; (case hqk1 | hqk2 => k_asm); (case hqk3 => exact News.isList (by k_asm) (by k_mem)); (case hqk4 => (simp only [List.size_toArray]; (first | lia | omega))); (case hqk5 => exact rfl); k_whole); intro _ _ _ _ hq_l1; (try k_lt hq_l1); (try k_sweep))))) | ((fail_if_success with_reducible (first | show wpAny _ _ (exec (Stmt.For _ _ _ _ _) _) _ _ _ | show wpAny _ _ (pyIter _) _ _ _ | show wpAny _ _ (exec (Stmt.Assign _ (Expr.ListComp _ _ _ _) _) _) _ _ _ | show wpAny _ _ (eval (Expr.ListComp _ _ _ _) _) _ _ _ | show LCg.CompSrc _ _ _ _ _ _ _ _ _ _ _ _ _ _ | show LCg.CompEnd _ _ _ _ _ _ _ _ _ _ _ _ _ _ | show LCt.CompSrcT _ _ _ _ _ _ _ _ _ _ _ _ _ _ _)); first | walk1 | (dsimp only; walk1)) | (leave1; try dsimp only) | fail))
    rename Fr _ _ _ _ => lF
    rename News _ _ _ _ => lN
    with_unfolding_all refine LCg.CompSrc.ledger (its := ys.toArray) (k := ys.length) (by rfl) lF lN (by k_mem) (by rw [List.size_toArray, hyl]; decide) ?_
    intro g1
    refine cr_inv (fun i zs nw' => ∃ tw, nw' = tw ++ (tl0 ++ news) ∧ Lets tw zs ((xs.take i).map (fun x => x.fmod 3)) ∧ Dj tw news) ⟨[], rfl, .nil, fun _ _ _ h => nomatch h⟩ ?_ ?_
    · intro i v I oI C oC D2 m₂ zs nw' h2 tk2 E' hi hv hJ hC hx F2 N2 off ne
      obtain ⟨tw, rfl, hlt, hdj⟩ := hJ
      obtain ⟨t2, rfl, hxg⟩ := ints_at hxi (by simpa using hv)
      rw [List.take_add_one, hxg, Option.toList_some, List.map_append]
      try k_fold
      (repeat' (first | (k_unfold; (try dsimp only)) | (k_end; wrow_close) | ((with_reducible show wpAny _ _ (execs (_ :: _) _) _ _ (Shared.mk _ _ _ (_ + 1) _)); (with_reducible refine toks_cut ?_); intro _) | ((first | ((with_reducible show wpAny _ _ (call (Value.builtin _) _) _ _ _); (first | ((k_here; (with_reducible show wpAny _ _ (call (Value.builtin "sum") [Value.ref _]) _ _ _); k_dflt (refine' LSm.sum_ints ?hqF ?hqN ?hqh ?hql ?hqi ?_; (case hqF | hqN => k_asm); (case hqh => exact rfl); (case hql => exact News.isList (by k_asm) (by k_mem)); (case hqi => first | assumption | exact ints_pick (by assumption))); intro _ _ _ _ _; (try k_sweep))) | ((k_here; (with_reducible show wpAny _ _ (call (Value.builtin "str.join") [Value.str _ _, Value.ref _]) _ _ _); k_dflt (refine' join_listW ?hqk1 ?hqk2 ?hqk3 ?hqk4 ?_; (case hqk1 => exact News.isList (by k_asm) (by k_mem)); (case hqk2 => assumption); (case hqk3 => decide +kernel); (case hqk4 => assumption)); intro _ _)) | ((k_here; (with_reducible show wpAny _ _ (call (Value.builtin "len") [Value.ref _]) _ _ _); k_dflt (refine' len_tupM ?hqk1 ?hqk2 ?hqk3 ?hqk4 ?_; (case hqk1 => k_asm); (case hqk2 => k_mem); (case hqk3 => first | exact IntsAre.length (by assumption) | assumption); (case hqk4 => (first | lia | omega))); k_whole)) | ((k_here; (with_reducible show wpAny _ _ (call (Value.builtin "len") [Value.ref _]) _ _ _); k_dflt (refine' len_listM ?hqk1 ?hqk2 ?hqk3 ?hqk4 ?_; (case hqk1 => k_asm); (case hqk2 => k_mem); (case hqk3 => first | exact IntsAre.length (by assumption) | assumption); (case hqk4 => (first | lia | omega))); k_whole)))) | ((with_reducible show wpAny _ _ (subscriptTail _ _ (Value.ref _) _) _ _ _); (first | ((k_here; (with_reducible show wpAny _ _ (subscriptTail _ (PySem.Expr.Slice (some _) none (some _) _) (Value.ref _) (Value.ref _)) _ _ _); k_dflt (refine' kmk_slice3_lit ?hqF ?hqN ?hql ?hqp ?hqq ?hqk ?hqo ?hqe ?_ ?hqs ?hqt ?hqz; (case hqF | hqN => k_asm); (case hql => exact Fr.lst (by k_asm) (by k_asm)); (case hqp | hqq | hqk => kmk_part); (case hqo => decide); (case hqe => exact rfl); (case hqs => with_unfolding_all rfl); (case hqt => kmk_pure); (case hqz => (simp only [List.size_toArray, sizeLine_eq]; (first | lia | omega)))); intro _ _ _ _ hq_l1; (try k_lt hq_l1); (try k_sweep))) | ((k_here; (with_reducible show wpAny _ _ (subscriptTail _ _ (Value.ref _) (Value.int _ _)) _ _ _); k_dflt (refine' item_refM ?hqk1 ?hqk2 ?hqk4 ?hqk5 ?hqk6 ?_; (case hqk1 => k_asm); (case hqk2 => k_mem); (case hqk4 | hqk5 => (first | lia | omega)); (case hqk6 => assumption)); k_whole)) | ((k_here; (with_reducible show wpAny _ _ (subscriptTail _ (PySem.Expr.Slice none (some _) none _) (Value.ref _) (Value.ref _)) _ _ _); k_dflt (refine' kms_slice_lit ?hqF ?hqN ?hql ?hqp ?hqq ?hqe ?_ ?hqs ?hqt ?hqz; (case hqF | hqN => k_asm); (case hql => exact News.isList (by k_asm) (by k_mem)); (case hqp | hqq => kmk_part); (case hqe => assumption); (case hqs => with_unfolding_all rfl); (case hqt => kmk_pure); (case hqz => (simp only [List.size_toArray, sizeLine_eq]; (first | lia | omega)))); intro _ _ _ _ hq_l1; (try k_lt hq_l1); (try k_sweep))) | ((k_here; (with_reducible show wpAny _ _ (subscriptTail _ _ (Value.ref _) (Value.int 0 _)) _ _ _); k_dflt (refine' item_at0 ?hqk1 ?hqk2 ?_; (case hqk1 => k_asm); (case hqk2 => k_mem)); k_whole)) | ((k_here; (with_reducible show wpAny _ _ (subscriptTail _ _ (Value.ref _) (Value.int _ _)) _ _ _); k_dflt (refine' item_listM ?hqk1 ?hqk2 ?hqk3 ?hqk4 ?hqk5 ?hqk6 ?_; (case hqk1 => k_asm); (case hqk2 => k_mem); (case hqk3 => assumption); (case hqk4 | hqk5 | hqk6 => (first | lia | omega))); k_whole; intro _)) | ((k_here; (with_reducible show wpAny _ _ (subscriptTail _ _ (Value.ref _) (Value.int _ _)) _ _ _); k_dflt (refine' item_tupM ?hqk1 ?hqk2 ?hqk3 ?hqk4 ?hqk5 ?hqk6 ?_; (case hqk1 => k_asm); (case hqk2 => k_mem); (case hqk3 => assumption); (case hqk4 | hqk5 | hqk6 => (first | lia | omega))); k_whole; intro _)))) | ((with_reducible show wpAny _ _ (call (Value.ref _) _) _ _ _); ((k_here; (with_reducible show wpAny _ _ (call (Value.ref 108) _) _ _ _); k_dflt (refine' ct_useI (countOf_ct _ _ _ _ _ _ _ _ _ _) ?kB ?kF ?kX ?kN ?kT ?kk ?kP ?kd ?ku ?_; (((case kB | kF | kX | kN | kT => k_asm); (case kk => first | exact rfl | assumption); (case kP => (first | ((refine ⟨?_, by k_mem⟩; first | assumption | exact IsWord.mono (by assumption) (by (first | exact fun _ h => h | (intro p hp; k_ownIn) | (intro p hp; exact List.mem_append.mpr (.inl hp)) | (intro p hp; exact List.mem_cons_of_mem _ (List.mem_append.mpr (.inl hp))) | (intro p hp; simp only [List.mem_append, List.mem_cons] at *; simp [hp]))))) | (first | exact trivial | assumption | exact Ws.mono (by assumption) (by (first | exact fun _ h => h | (intro p hp; k_ownIn) | (intro p hp; exact List.mem_append.mpr (.inl hp)) | (intro p hp; exact List.mem_cons_of_mem _ (List.mem_append.mpr (.inl hp))) | (intro p hp; simp only [List.mem_append, List.mem_cons] at *; simp [hp])))))); (case kd | ku => (((try dsimp only [ktrTop, Around.deeper, Around.in1] at *); (first | lia | omega)))); k_whole; intro mq_tp mq_hp mq_tkp mq_Fp mq_Np; (try dsimp only); (try k_sweep); (try k_fold))))))) | ((k_here; (with_reducible show wpAny _ _ (binaryOp Operator.Add (Value.str _ _) (Value.str _ _)) _ _ _); k_dflt (refine' PyProof.Rows.add_str ?_ ?hqsz; (case hqsz => (simp only [Str.length_append, sizeLine_eq]; (first | lia | omega)))); intro _ _)) | ((with_reducible show wpAny _ _ (newTuple _) _ _ _); ((k_here; k_dflt (refine' kup_newTuple ?hqF ?hqN ?_ ?hqz; (case hqF | hqN => k_asm); (case hqz => kmk_size)); intro _ _ _ _ hq_l1; (try k_lt hq_l1); (try k_sweep)))) | ((k_here; (with_reducible show wpAny _ _ (call (Value.type _) [Value.ref _]) _ _ _); k_dflt (refine' kde_tupleOf ?hqk1 ?hqk2 ?hqk3 ?hqk4 ?hqk5 ?_; (case hqk1 | hqk2 => k_asm); (case hqk3 => exact News.isList (by k_asm) (by k_mem)); (case hqk4 => (simp only [List.size_toArray]; (first | lia | omega))); (case hqk5 => exact rfl); k_whole); intro _ _ _ _ hq_l1; (try k_lt hq_l1); (try k_sweep))))) | ((fail_if_success with_reducible (first | show wpAny _ _ (exec (Stmt.For _ _ _ _ _) _) _ _ _ | show wpAny _ _ (pyIter _) _ _ _ | show wpAny _ _ (exec (Stmt.Assign _ (Expr.ListComp _ _ _ _) _) _) _ _ _ | show wpAny _ _ (eval (Expr.ListComp _ _ _ _) _) _ _ _ | show LCg.CompSrc _ _ _ _ _ _ _ _ _ _ _ _ _ _ | show LCg.CompEnd _ _ _ _ _ _ _ _ _ _ _ _ _ _ | show LCt.CompSrcT _ _ _ _ _ _ _ _ _ _ _ _ _ _ _)); first | walk1 | (dsimp only; walk1)) | (leave1; try dsimp only) | fail))
      rename (I < _ ∧ C < _ ∧ D2 < _ ∧ AllLt _ _) => hl
      exact LCg.CompEnd.intro (by k_asm) (by assumption) _ (fun p hp => wd_mem hp) ⟨⟨Nat.ne_of_gt hl.1, Nat.ne_of_gt hl.2.1, Nat.ne_of_gt hl.2.2.1⟩, off⟩ (Or.inr ⟨_, List.mem_cons_of_mem _ (List.mem_append.mpr (.inr (List.mem_append.mpr (.inl hnum0)))), rfl, _, rfl⟩) ⟨_ :: tw, rfl, lets_snoc hlt, dj_cons hdj (fun q hq => Nat.ne_of_lt (ktn_ltOf hl.2.2.2 q (List.mem_append.mpr (.inr (List.mem_append.mpr (.inr hq))))))⟩
    · intro zs1 nw' hJ
      obtain ⟨tw1, rfl, hlt1, hdj1⟩ := hJ
      rw [List.size_toArray, hyl, ← hxl, List.take_length] at hlt1
      unfold LCg.FinE
      intro D1 h1 tk1 F1 N1 o1
      obtain ⟨tl1, etl1⟩ : ∃ tl, tl = (D1, LCg.lst zs1) :: (tw1 ++ tl0) := ⟨_, rfl⟩
      replace N1 : News _ _ _ (tl1 ++ news) := kst_newsOf N1 (fun p hp => by rw [etl1] at hp; exact wd_mem2 hp)
      have dj1 : Dj tl1 news := by rw [etl1]; exact dj_next hdj1 dj0 o1
      have hwd1 : IsWord tl1 (.ref D1) (xs.map (fun x => x.fmod 3)) := by rw [etl1]; exact ⟨D1, zs1, _, rfl, .head _, hlt1.mono (fun p hp => .tail _ (List.mem_append.mpr (.inl hp)))⟩
      have hnum1 : (D, LCg.lst ys) ∈ tl1 := by rw [etl1]; exact .tail _ (List.mem_append.mpr (.inr hnum0))

      clear o1
      try k_fold
      (repeat' (first | (k_unfold; (try dsimp only)) | (k_end; wrow_close) | ((with_reducible show wpAny _ _ (execs (_ :: _) _) _ _ (Shared.mk _ _ _ (_ + 1) _)); (with_reducible refine toks_cut ?_); intro _) | ((first | ((with_reducible show wpAny _ _ (call (Value.builtin _) _) _ _ _); (first | ((k_here; (with_reducible show wpAny _ _ (call (Value.builtin "sum") [Value.ref _]) _ _ _); k_dflt (refine' LSm.sum_ints ?hqF ?hqN ?hqh ?hql ?hqi ?_; (case hqF | hqN => k_asm); (case hqh => exact rfl); (case hql => exact News.isList (by k_asm) (by k_mem)); (case hqi => first | assumption | exact ints_pick (by assumption))); intro _ _ _ _ _; (try k_sweep))) | ((k_here; (with_reducible show wpAny _ _ (call (Value.builtin "str.join") [Value.str _ _, Value.ref _]) _ _ _); k_dflt (refine' join_listW ?hqk1 ?hqk2 ?hqk3 ?hqk4 ?_; (case hqk1 => exact News.isList (by k_asm) (by k_mem)); (case hqk2 => assumption); (case hqk3 => decide +kernel); (case hqk4 => assumption)); intro _ _)) | ((k_here; (with_reducible show wpAny _ _ (call (Value.builtin "len") [Value.ref _]) _ _ _); k_dflt (refine' len_tupM ?hqk1 ?hqk2 ?hqk3 ?hqk4 ?_; (case hqk1 => k_asm); (case hqk2 => k_mem); (case hqk3 => first | exact IntsAre.length (by assumption) | assumption); (case hqk4 => (first | lia | omega))); k_whole)) | ((k_here; (with_reducible show wpAny _ _ (call (Value.builtin "len") [Value.ref _]) _ _ _); k_dflt (refine' len_listM ?hqk1 ?hqk2 ?hqk3 ?hqk4 ?_; (case hqk1 => k_asm); (case hqk2 => k_mem); (case hqk3 => first | exact IntsAre.length (by assumption) | assumption); (case hqk4 => (first | lia | omega))); k_whole)))) | ((with_reducible show wpAny _ _ (subscriptTail _ _ (Value.ref _) _) _ _ _); (first | ((k_here; (with_reducible show wpAny _ _ (subscriptTail _ (PySem.Expr.Slice (some _) none (some _) _) (Value.ref _) (Value.ref _)) _ _ _); k_dflt (refine' kmk_slice3_lit ?hqF ?hqN ?hql ?hqp ?hqq ?hqk ?hqo ?hqe ?_ ?hqs ?hqt ?hqz; (case hqF | hqN => k_asm); (case hql => exact Fr.lst (by k_asm) (by k_asm)); (case hqp | hqq | hqk => kmk_part); (case hqo => decide); (case hqe => exact rfl); (case hqs => with_unfolding_all rfl); (case hqt => kmk_pure); (case hqz => (simp only [List.size_toArray, sizeLine_eq]; (first | lia | omega)))); intro _ _ _ _ hq_l1; (try k_lt hq_l1); (try k_sweep))) | ((k_here; (with_reducible show wpAny _ _ (subscriptTail _ _ (Value.ref _) (Value.int _ _)) _ _ _); k_dflt (refine' item_refM ?hqk1 ?hqk2 ?hqk4 ?hqk5 ?hqk6 ?_; (case hqk1 => k_asm); (case hqk2 => k_mem); (case hqk4 | hqk5 => (first | lia | omega)); (case hqk6 => assumption)); k_whole)) | ((k_here; (with_reducible show wpAny _ _ (subscriptTail _ (PySem.Expr.Slice none (some _) none _) (Value.ref _) (Value.ref _)) _ _ _); k_dflt (refine' kms_slice_lit ?hqF ?hqN ?hql ?hqp ?hqq ?hqe ?_ ?hqs ?hqt ?hqz; (case hqF | hqN => k_asm); (case hql => exact News.isList (by k_asm) (by k_mem)); (case hqp | hqq => kmk_part); (case hqe => assumption); (case hqs => with_unfolding_all rfl); (case hqt => kmk_pure); (case hqz => (simp only [List.size_toArray, sizeLine_eq]; (first | lia | omega)))); intro _ _ _ _ hq_l1; (try k_lt hq_l1); (try k_sweep))) | ((k_here; (with_reducible show wpAny _ _ (subscriptTail _ _ (Value.ref _) (Value.int 0 _)) _ _ _); k_dflt (refine' item_at0 ?hqk1 ?hqk2 ?_; (case hqk1 => k_asm); (case hqk2 => k_mem)); k_whole)) | ((k_here; (with_reducible show wpAny _ _ (subscriptTail _ _ (Value.ref _) (Value.int _ _)) _ _ _); k_dflt (refine' item_listM ?hqk1 ?hqk2 ?hqk3 ?hqk4 ?hqk5 ?hqk6 ?_; (case hqk1 => k_asm); (case hqk2 => k_mem); (case hqk3 => assumption); (case hqk4 | hqk5 | hqk6 => (first | lia | omega))); k_whole; intro _)) | ((k_here; (with_reducible show wpAny _ _ (subscriptTail _ _ (Value.ref _) (Value.int _ _)) _ _ _); k_dflt (refine' item_tupM ?hqk1 ?hqk2 ?hqk3 ?hqk4 ?hqk5 ?hqk6 ?_; (case hqk1 => k_asm); (case hqk2 => k_mem); (case hqk3 => assumption); (case hqk4 | hqk5 | hqk6 => (first | lia | omega))); k_whole; intro _)))) | ((with_reducible show wpAny _ _ (call (Value.ref _) _) _ _ _); ((k_here; (with_reducible show wpAny _ _ (call (Value.ref 108) _) _ _ _); k_dflt (refine' ct_useI (countOf_ct _ _ _ _ _ _ _ _ _ _) ?kB ?kF ?kX ?kN ?kT ?kk ?kP ?kd ?ku ?_; (((case kB | kF | kX | kN | kT => k_asm); (case kk => first | exact rfl | assumption); (case kP => (first | ((refine ⟨?_, by k_mem⟩; first | assumption | exact IsWord.mono (by assumption) (by (first | exact fun _ h => h | (intro p hp; k_ownIn) | (intro p hp; exact List.mem_append.mpr (.inl hp)) | (intro p hp; exact List.mem_cons_of_mem _ (List.mem_append.mpr (.inl hp))) | (intro p hp; simp only [List.mem_append, List.mem_cons] at *; simp [hp]))))) | (first | exact trivial | assumption | exact Ws.mono (by assumption) (by (first | exact fun _ h => h | (intro p hp; k_ownIn) | (intro p hp; exact List.mem_append.mpr (.inl hp)) | (intro p hp; exact List.mem_cons_of_mem _ (List.mem_append.mpr (.inl hp))) | (intro p hp; simp only [List.mem_append, List.mem_cons] at *; simp [hp])))))); (case kd | ku => (((try dsimp only [ktrTop, Around.deeper, Around.in1] at *); (first | lia | omega)))); k_whole; intro mq_tp mq_hp mq_tkp mq_Fp mq_Np; (try dsimp only); (try k_sweep); (try k_fold))))))) | ((k_here; (with_reducible show wpAny _ _ (binaryOp Operator.Add (Value.str _ _) (Value.str _ _)) _ _ _); k_dflt (refine' PyProof.Rows.add_str ?_ ?hqsz; (case hqsz => (simp only [Str.length_append, sizeLine_eq]; (first | lia | omega)))); intro _ _)) | ((with_reducible show wpAny _ _ (newTuple _) _ _ _); ((k_here; k_dflt (refine' kup_newTuple ?hqF ?hqN ?_ ?hqz; (case hqF | hqN => k_asm); (case hqz => kmk_size)); intro _ _ _ _ hq_l1; (try k_lt hq_l1); (try k_sweep)))) | ((k_here; (with_reducible show wpAny _ _ (call (Value.type _) [Value.ref _]) _ _ _); k_dflt (refine' kde_tupleOf ?hqk1 ?hqk2 ?hqk3 ?hqk4 ?hqk5 ?_; (case hqk1 | hqk2 => k_asm); (case hqk3 => exact News.isList (by k_asm) (by k_mem)); (case hqk4 => (simp only [List.size_toArray]; (first | lia | omega))); (case hqk5 => exact rfl); k_whole); intro _ _ _ _ hq_l1; (try k_lt hq_l1); (try k_sweep))))) | ((fail_if_success with_reducible (first | show wpAny _ _ (exec (Stmt.For _ _ _ _ _) _) _ _ _ | show wpAny _ _ (pyIter _) _ _ _ | show wpAny _ _ (exec (Stmt.Assign _ (Expr.ListComp _ _ _ _) _) _) _ _ _ | show wpAny _ _ (eval (Expr.ListComp _ _ _ _) _) _ _ _ | show LCg.CompSrc _ _ _ _ _ _ _ _ _ _ _ _ _ _ | show LCg.CompEnd _ _ _ _ _ _ _ _ _ _ _ _ _ _ | show LCt.CompSrcT _ _ _ _ _ _ _ _ _ _ _ _ _ _ _)); first | walk1 | (dsimp only; walk1)) | (leave1; try dsimp only) | fail))
      k_dflt (refine LCg.ListComp_U (F₀ := by k_asm) (by rfl) (by decide) (by rfl) (by decide) (by rfl) ?_)
      (repeat' (first | (k_unfold; (try dsimp only)) | (k_end; wrow_close) | ((with_reducible show wpAny _ _ (execs (_ :: _) _) _ _ (Shared.mk _ _ _ (_ + 1) _)); (with_reducible refine toks_cut ?_); intro _) | ((first | ((with_reducible show wpAny _ _ (call (Value.builtin _) _) _ _ _); (first | ((k_here; (with_reducible show wpAny _ _ (call (Value.builtin "sum") [Value.ref _]) _ _ _); k_dflt (refine' LSm.sum_ints ?hqF ?hqN ?hqh ?hql ?hqi ?_; (case hqF | hqN => k_asm); (case hqh => exact rfl); (case hql => exact News.isList (by k_asm) (by k_mem)); (case hqi => first | assumption | exact ints_pick (by assumption))); intro _ _ _ _ _; (try k_sweep))) | ((k_here; (with_reducible show wpAny _ _ (call (Value.builtin "str.join") [Value.str _ _, Value.ref _]) _ _ _); k_dflt (refine' join_listW ?hqk1 ?hqk2 ?hqk3 ?hqk4 ?_; (case hqk1 => exact News.isList (by k_asm) (by k_mem)); (case hqk2 => assumption); (case hqk3 => decide +kernel); (case hqk4 => assumption)); intro _ _)) | ((k_here; (with_reducible show wpAny _ _ (call (Value.builtin "len") [Value.ref _]) _ _ _); k_dflt (refine' len_tupM ?hqk1 ?hqk2 ?hqk3 ?hqk4 ?_; (case hqk1 => k_asm); (case hqk2 => k_mem); (case hqk3 => first | exact IntsAre.length (by assumption) | assumption); (case hqk4 => (first | lia | omega))); k_whole)) | ((k_here; (with_reducible show wpAny _ _ (call (Value.builtin "len") [Value.ref _]) _ _ _); k_dflt (refine' len_listM ?hqk1 ?hqk2 ?hqk3 ?hqk4 ?_; (case hqk1 => k_asm); (case hqk2 => k_mem); (case hqk3 => first | exact IntsAre.length (by assumption) | assumption); (case hqk4 => (first | lia | omega))); k_whole)))) | ((with_reducible show wpAny _ _ (subscriptTail _ _ (Value.ref _) _) _ _ _); (first | ((k_here; (with_reducible show wpAny _ _ (subscriptTail _ (PySem.Expr.Slice (some _) none (some _) _) (Value.ref _) (Value.ref _)) _ _ _); k_dflt (refine' kmk_slice3_lit ?hqF ?hqN ?hql ?hqp ?hqq ?hqk ?hqo ?hqe ?_ ?hqs ?hqt ?hqz; (case hqF | hqN => k_asm); (case hql => exact Fr.lst (by k_asm) (by k_asm)); (case hqp | hqq | hqk => kmk_part); (case hqo => decide); (case hqe => exact rfl); (case hqs => with_unfolding_all rfl); (case hqt => kmk_pure); (case hqz => (simp only [List.size_toArray, sizeLine_eq]; (first | lia | omega)))); intro _ _ _ _ hq_l1; (try k_lt hq_l1); (try k_sweep))) | ((k_here; (with_reducible show wpAny _ _ (subscriptTail _ _ (Value.ref _) (Value.int _ _)) _ _ _); k_dflt (refine' item_refM ?hqk1 ?hqk2 ?hqk4 ?hqk5 ?hqk6 ?_; (case hqk1 => k_asm); (case hqk2 => k_mem); (case hqk4 | hqk5 => (first | lia | omega)); (case hqk6 => assumption)); k_whole)) | ((k_here; (with_reducible show wpAny _ _ (subscriptTail _ (PySem.Expr.Slice none (some _) none _) (Value.ref _) (Value.ref _)) _ _ _); k_dflt (refine' kms_slice_lit ?hqF ?hqN ?hql ?hqp ?hqq ?hqe ?_ ?hqs ?hqt ?hqz; (case hqF | hqN => k_asm); (case hql => exact News.isList (by k_asm) (by k_mem)); (case hqp | hqq => kmk_part); (case hqe => assumption); (case hqs => with_unfolding_all rfl); (case hqt => kmk_pure); (case hqz => (simp only [List.size_toArray, sizeLine_eq]; (first | lia | omega)))); intro _ _ _ _ hq_l1; (try k_lt hq_l1); (try k_sweep))) | ((k_here; (with_reducible show wpAny _ _ (subscriptTail _ _ (Value.ref _) (Value.int 0 _)) _ _ _); k_dflt (refine' item_at0 ?hqk1 ?hqk2 ?_; (case hqk1 => k_asm); (case hqk2 => k_mem)); k_whole)) | ((k_here; (with_reducible show wpAny _ _ (subscriptTail _ _ (Value.ref _) (Value.int _ _)) _ _ _); k_dflt (refine' item_listM ?hqk1 ?hqk2 ?hqk3 ?hqk4 ?hqk5 ?hqk6 ?_; (case hqk1 => k_asm); (case hqk2 => k_mem); (case hqk3 => assumption); (case hqk4 | hqk5 | hqk6 => (first | lia | omega))); k_whole; intro _)) | ((k_here; (with_reducible show wpAny _ _ (subscriptTail _ _ (Value.ref _) (Value.int _ _)) _ _ _); k_dflt (refine' item_tupM ?hqk1 ?hqk2 ?hqk3 ?hqk4 ?hqk5 ?hqk6 ?_; (case hqk1 => k_asm); (case hqk2 => k_mem); (case hqk3 => assumption); (case hqk4 | hqk5 | hqk6 => (first | lia | omega))); k_whole; intro _)))) | ((with_reducible show wpAny _ _ (call (Value.ref _) _) _ _ _); ((k_here; (with_reducible show wpAny _ _ (call (Value.ref 108) _) _ _ _); k_dflt (refine' ct_useI (countOf_ct _ _ _ _ _ _ _ _ _ _) ?kB ?kF ?kX ?kN ?kT ?kk ?kP ?kd ?ku ?_; (((case kB | kF | kX | kN | kT => k_asm); (case kk => first | exact rfl | assumption); (case kP => (first | ((refine ⟨?_, by k_mem⟩; first | assumption | exact IsWord.mono (by assumption) (by (first | exact fun _ h => h | (intro p hp; k_ownIn) | (intro p hp; exact List.mem_append.mpr (.inl hp)) | (intro p hp; exact List.mem_cons_of_mem _ (List.mem_append.mpr (.inl hp))) | (intro p hp; simp only [List.mem_append, List.mem_cons] at *; simp [hp]))))) | (first | exact trivial | assumption | exact Ws.mono (by assumption) (by (first | exact fun _ h => h | (intro p hp; k_ownIn) | (intro p hp; exact List.mem_append.mpr (.inl hp)) | (intro p hp; exact List.mem_cons_of_mem _ (List.mem_append.mpr (.inl hp))) | (intro p hp; simp only [List.mem_append, List.mem_cons] at *; simp [hp])))))); (case kd | ku => (((try dsimp only [ktrTop, Around.deeper, Around.in1] at *); (first | lia | omega)))); k_whole; intro mq_tp mq_hp mq_tkp mq_Fp mq_Np; (try dsimp only); (try k_sweep); (try k_fold))))))) | ((k_here; (with_reducible show wpAny _ _ (binaryOp Operator.Add (Value.str _ _) (Value.str _ _)) _ _ _); k_dflt (refine' PyProof.Rows.add_str ?_ ?hqsz; (case hqsz => (simp only [Str.length_append, sizeLine_eq]; (first | lia | omega)))); intro _ _)) | ((with_reducible show wpAny _ _ (newTuple _) _ _ _); ((k_here; k_dflt (refine' kup_newTuple ?hqF ?hqN ?_ ?hqz; (case hqF | hqN => k_asm); (case hqz => kmk_size)); intro _ _ _ _ hq_l1; (try k_lt hq_l1); (try k_sweep)))) | ((k_here; (with_reducible show wpAny _ _ (call (Value.type _) [Value.ref _]) _ _ _); k_dflt (refine' kde_tupleOf ?hqk1 ?hqk2 ?hqk3 ?hqk4 ?hqk5 ?_; (case hqk1 | hqk2 => k_asm); (case hqk3 => exact News.isList (by k_asm) (by k_mem)); (case hqk4 => (simp only [List.size_toArray]; (first | lia | omega))); (case hqk5 => exact rfl); k_whole); intro _ _ _ _ hq_l1; (try k_lt hq_l1); (try k_sweep))))) | ((fail_if_success with_reducible (first | show wpAny _ _ (exec (Stmt.For _ _ _ _ _) _) _ _ _ | show wpAny _ _ (pyIter _) _ _ _ | show wpAny _ _ (exec (Stmt.Assign _ (Expr.ListComp _ _ _ _) _) _) _ _ _ | show wpAny _ _ (eval (Expr.ListComp _ _ _ _) _) _ _ _ | show LCg.CompSrc _ _ _ _ _ _ _ _ _ _ _ _ _ _ | show LCg.CompEnd _ _ _ _ _ _ _ _ _ _ _ _ _ _ | show LCt.CompSrcT _ _ _ _ _ _ _ _ _ _ _ _ _ _ _)); first | walk1 | (dsimp only; walk1)) | (leave1; try dsimp only) | fail))
      rename Fr _ _ _ _ => lF
      rename News _ _ _ _ => lN
      with_unfolding_all refine LCg.CompSrc.ledger (its := ys.toArray) (k := ys.length) (by rfl) lF lN (by k_mem) (by rw [List.size_toArray, hyl]; decide) ?_
      intro g2
      refine cr_inv (fun i zs nw' => ∃ tw, nw' = tw ++ (tl1 ++ news) ∧ Lets tw zs ((xs.take i).map (fun x => (x.fdiv 3).fmod 3)) ∧ Dj tw news) ⟨[], rfl, .nil, fun _ _ _ h => nomatch h⟩ ?_ ?_
      · intro i v I oI C oC D2 m₂ zs nw' h2 tk2 E' hi hv hJ hC hx F2 N2 off ne
        obtain ⟨tw, rfl, hlt, hdj⟩ := hJ
        obtain ⟨t2, rfl, hxg⟩ := ints_at hxi (by simpa using hv)
        rw [List.take_add_one, hxg, Option.toList_some, List.map_append]
        try k_fold
        (repeat' (first | (k_unfold; (try dsimp only)) | (k_end; wrow_close) | ((with_reducible show wpAny _ _ (execs (_ :: _) _) _ _ (Shared.mk _ _ _ (_ + 1) _)); (with_reducible refine toks_cut ?_); intro _) | ((first | ((with_reducible show wpAny _ _ (call (Value.builtin _) _) _ _ _); (first | ((k_here; (with_reducible show wpAny _ _ (call (Value.builtin "sum") [Value.ref _]) _ _ _); k_dflt (refine' LSm.sum_ints ?hqF ?hqN ?hqh ?hql ?hqi ?_; (case hqF | hqN => k_asm); (case hqh => exact rfl); (case hql => exact News.isList (by k_asm) (by k_mem)); (case hqi => first | assumption | exact ints_pick (by assumption))); intro _ _ _ _ _; (try k_sweep))) | ((k_here; (with_reducible show wpAny _ _ (call (Value.builtin "str.join") [Value.str _ _, Value.ref _]) _ _ _); k_dflt (refine' join_listW ?hqk1 ?hqk2 ?hqk3 ?hqk4 ?_; (case hqk1 => exact News.isList (by k_asm) (by k_mem)); (case hqk2 => assumption); (case hqk3 => decide +kernel); (case hqk4 => assumption)); intro _ _)) | ((k_here; (with_reducible show wpAny _ _ (call (Value.builtin "len") [Value.ref _]) _ _ _); k_dflt (refine' len_tupM ?hqk1 ?hqk2 ?hqk3 ?hqk4 ?_; (case hqk1 => k_asm); (case hqk2 => k_mem); (case hqk3 => first | exact IntsAre.length (by assumption) | assumption); (case hqk4 => (first | lia | omega))); k_whole)) | ((k_here; (with_reducible show wpAny _ _ (call (Value.builtin "len") [Value.ref _]) _ _ _); k_dflt (refine' len_listM ?hqk1 ?hqk2 ?hqk3 ?hqk4 ?_; (case hqk1 => k_asm); (case hqk2 => k_mem); (case hqk3 => first | exact IntsAre.length (by assumption) | assumption); (case hqk4 => (first | lia | omega))); k_whole)))) | ((with_reducible show wpAny _ _ (subscriptTail _ _ (Value.ref _) _) _ _ _); (first | ((k_here; (with_reducible show wpAny _ _ (subscriptTail _ (PySem.Expr.Slice (some _) none (some _) _) (Value.ref _) (Value.ref _)) _ _ _); k_dflt (refine' kmk_slice3_lit ?hqF ?hqN ?hql ?hqp ?hqq ?hqk ?hqo ?hqe ?_ ?hqs ?hqt ?hqz; (case hqF | hqN => k_asm); (case hql => exact Fr.lst (by k_asm) (by k_asm)); (case hqp | hqq | hqk => kmk_part); (case hqo => decide); (case hqe => exact rfl); (case hqs => with_unfolding_all rfl); (case hqt => kmk_pure); (case hqz => (simp only [List.size_toArray, sizeLine_eq]; (first | lia | omega)))); intro _ _ _ _ hq_l1; (try k_lt hq_l1); (try k_sweep))) | ((k_here; (with_reducible show wpAny _ _ (subscriptTail _ _ (Value.ref _) (Value.int _ _)) _ _ _); k_dflt (refine' item_refM ?hqk1 ?hqk2 ?hqk4 ?hqk5 ?hqk6 ?_; (case hqk1 => k_asm); (case hqk2 => k_mem); (case hqk4 | hqk5 => (first | lia | omega)); (case hqk6 => assumption)); k_whole)) | ((k_here; (with_reducible show wpAny _ _ (subscriptTail _ (PySem.Expr.Slice none (some _) none _) (Value.ref _) (Value.ref _)) _ _ _); k_dflt (refine' kms_slice_lit ?hqF ?hqN ?hql ?hqp ?hqq ?hqe ?_ ?hqs ?hqt ?hqz; (case hqF | hqN => k_asm); (case hql => exact News.isList (by k_asm) (by k_mem)); (case hqp | hqq => kmk_part); (case hqe => assumption); (case hqs => with_unfolding_all rfl); (case hqt => kmk_pure); (case hqz => (simp only [List.size_toArray, sizeLine_eq]; (first | lia | omega)))); intro _ _ _ _ hq_l1; (try k_lt hq_l1); (try k_sweep))) | ((k_here; (with_reducible show wpAny _ _ (subscriptTail _ _ (Value.ref _) (Value.int 0 _)) _ _ _); k_dflt (refine' item_at0 ?hqk1 ?hqk2 ?_; (case hqk1 => k_asm); (case hqk2 => k_mem)); k_whole)) | ((k_here; (with_reducible show wpAny _ _ (subscriptTail _ _ (Value.ref _) (Value.int _ _)) _ _ _); k_dflt (refine' item_listM ?hqk1 ?hqk2 ?hqk3 ?hqk4 ?hqk5 ?hqk6 ?_; (case hqk1 => k_asm); (case hqk2 => k_mem); (case hqk3 => assumption); (case hqk4 | hqk5 | hqk6 => (first | lia | omega))); k_whole; intro _)) | ((k_here; (with_reducible show wpAny _ _ (subscriptTail _ _ (Value.ref _) (Value.int _ _)) _ _ _); k_dflt (refine' item_tupM ?hqk1 ?hqk2 ?hqk3 ?hqk4 ?hqk5 ?hqk6 ?_; (case hqk1 => k_asm); (case hqk2 => k_mem); (case hqk3 => assumption); (case hqk4 | hqk5 | hqk6 => (first | lia | omega))); k_whole; intro _)))) | ((with_reducible show wpAny _ _ (call (Value.ref _) _) _ _ _); ((k_here; (with_reducible show wpAny _ _ (call (Value.ref 108) _) _ _ _); k_dflt (refine' ct_useI (countOf_ct _ _ _ _ _ _ _ _ _ _) ?kB ?kF ?kX ?kN ?kT ?kk ?kP ?kd ?ku ?_; (((case kB | kF | kX | kN | kT => k_asm); (case kk => first | exact rfl | assumption); (case kP => (first | ((refine ⟨?_, by k_mem⟩; first | assumption | exact IsWord.mono (by assumption) (by (first | exact fun _ h => h | (intro p hp; k_ownIn) | (intro p hp; exact List.mem_append.mpr (.inl hp)) | (intro p hp; exact List.mem_cons_of_mem _ (List.mem_append.mpr (.inl hp))) | (intro p hp; simp only [List.mem_append, List.mem_cons] at *; simp [hp]))))) | (first | exact trivial | assumption | exact Ws.mono (by assumption) (by (first | exact fun _ h => h | (intro p hp; k_ownIn) | (intro p hp; exact List.mem_append.mpr (.inl hp)) | (intro p hp; exact List.mem_cons_of_mem _ (List.mem_append.mpr (.inl hp))) | (intro p hp; simp only [List.mem_append, List.mem_cons] at *; simp [hp])))))); (case kd | ku => (((try dsimp only [ktrTop, Around.deeper, Around.in1] at *); (first | lia | omega)))); k_whole; intro mq_tp mq_hp mq_tkp mq_Fp mq_Np; (try dsimp only); (try k_sweep); (try k_fold))))))) | ((k_here; (with_reducible show wpAny _ _ (binaryOp Operator.Add (Value.str _ _) (Value.str _ _)) _ _ _); k_dflt (refine' PyProof.Rows.add_str ?_ ?hqsz; (case hqsz => (simp only [Str.length_append, sizeLine_eq]; (first | lia | omega)))); intro _ _)) | ((with_reducible show wpAny _ _ (newTuple _) _ _ _); ((k_here; k_dflt (refine' kup_newTuple ?hqF ?hqN ?_ ?hqz; (case hqF | hqN => k_asm); (case hqz => kmk_size)); intro _ _ _ _ hq_l1; (try k_lt hq_l1); (try k_sweep)))) | ((k_here; (with_reducible show wpAny _ _ (call (Value.type _) [Value.ref _]) _ _ _); k_dflt (refine' kde_tupleOf ?hqk1 ?hqk2 ?hqk3 ?hqk4 ?hqk5 ?_; (case hqk1 | hqk2 => k_asm); (case hqk3 => exact News.isList (by k_asm) (by k_mem)); (case hqk4 => (simp only [List.size_toArray]; (first | lia | omega))); (case hqk5 => exact rfl); k_whole); intro _ _ _ _ hq_l1; (try k_lt hq_l1); (try k_sweep))))) | ((fail_if_success with_reducible (first | show wpAny _ _ (exec (Stmt.For _ _ _ _ _) _) _ _ _ | show wpAny _ _ (pyIter _) _ _ _ | show wpAny _ _ (exec (Stmt.Assign _ (Expr.ListComp _ _ _ _) _) _) _ _ _ | show wpAny _ _ (eval (Expr.ListComp _ _ _ _) _) _ _ _ | show LCg.CompSrc _ _ _ _ _ _ _ _ _ _ _ _ _ _ | show LCg.CompEnd _ _ _ _ _ _ _ _ _ _ _ _ _ _ | show LCt.CompSrcT _ _ _ _ _ _ _ _ _ _ _ _ _ _ _)); first | walk1 | (dsimp only; walk1)) | (leave1; try dsimp only) | fail))
        rename (I < _ ∧ C < _ ∧ D2 < _ ∧ AllLt _ _) => hl
        exact LCg.CompEnd.intro (by k_asm) (by assumption) _ (fun p hp => wd_mem hp) ⟨⟨Nat.ne_of_gt hl.1, Nat.ne_of_gt hl.2.1, Nat.ne_of_gt hl.2.2.1⟩, off⟩ (Or.inr ⟨_, List.mem_cons_of_mem _ (List.mem_append.mpr (.inr (List.mem_append.mpr (.inl hnum1)))), rfl, _, rfl⟩) ⟨_ :: tw, rfl, lets_snoc hlt, dj_cons hdj (fun q hq => Nat.ne_of_lt (ktn_ltOf hl.2.2.2 q (List.mem_append.mpr (.inr (List.mem_append.mpr (.inr hq))))))⟩
      · intro zs2 nw' hJ
        obtain ⟨tw2, rfl, hlt2, hdj2⟩ := hJ
        rw [List.size_toArray, hyl, ← hxl, List.take_length] at hlt2
        unfold LCg.FinE
        intro D2 h2 tk2 F2 N2 o2
        obtain ⟨tl2, etl2⟩ : ∃ tl, tl = (D2, LCg.lst zs2) :: (tw2 ++ tl1) := ⟨_, rfl⟩
        replace N2 : News _ _ _ (tl2 ++ news) := kst_newsOf N2 (fun p hp => by rw [etl2] at hp; exact wd_mem2 hp)
        have dj2 : Dj tl2 news := by rw [etl2]; exact dj_next hdj2 dj1 o2
        have hwd2 : IsWord tl2 (.ref D2) (xs.map (fun x => (x.fdiv 3).fmod 3)) := by rw [etl2]; exact ⟨D2, zs2, _, rfl, .head _, hlt2.mono (fun p hp => .tail _ (List.mem_append.mpr (.inl hp)))⟩
        have hnum2 : (D, LCg.lst ys) ∈ tl2 := by rw [etl2]; exact .tail _ (List.mem_append.mpr (.inr hnum1))
        have hwd1' : IsWord tl2 (.ref D1) (xs.map (fun x => x.fmod 3)) := by rw [etl2]; exact hwd1.mono (fun p hp => .tail _ (List.mem_append.mpr (.inr hp)))
        clear o2
        try k_fold
        (repeat' (first | (k_unfold; (try dsimp only)) | (k_end; wrow_close) | ((with_reducible show wpAny _ _ (execs (_ :: _) _) _ _ (Shared.mk _ _ _ (_ + 1) _)); (with_reducible refine toks_cut ?_); intro _) | ((first | ((with_reducible show wpAny _ _ (call (Value.builtin _) _) _ _ _); (first | ((k_here; (with_reducible show wpAny _ _ (call (Value.builtin "sum") [Value.ref _]) _ _ _); k_dflt (refine' LSm.sum_ints ?hqF ?hqN ?hqh ?hql ?hqi ?_; (case hqF | hqN => k_asm); (case hqh => exact rfl); (case hql => exact News.isList (by k_asm) (by k_mem)); (case hqi => first | assumption | exact ints_pick (by assumption))); intro _ _ _ _ _; (try k_sweep))) | ((k_here; (with_reducible show wpAny _ _ (call (Value.builtin "str.join") [Value.str _ _, Value.ref _]) _ _ _); k_dflt (refine' join_listW ?hqk1 ?hqk2 ?hqk3 ?hqk4 ?_; (case hqk1 => exact News.isList (by k_asm) (by k_mem)); (case hqk2 => assumption); (case hqk3 => decide +kernel); (case hqk4 => assumption)); intro _ _)) | ((k_here; (with_reducible show wpAny _ _ (call (Value.builtin "len") [Value.ref _]) _ _ _); k_dflt (refine' len_tupM ?hqk1 ?hqk2 ?hqk3 ?hqk4 ?_; (case hqk1 => k_asm); (case hqk2 => k_mem); (case hqk3 => first | exact IntsAre.length (by assumption) | assumption); (case hqk4 => (first | lia | omega))); k_whole)) | ((k_here; (with_reducible show wpAny _ _ (call (Value.builtin "len") [Value.ref _]) _ _ _); k_dflt (refine' len_listM ?hqk1 ?hqk2 ?hqk3 ?hqk4 ?_; (case hqk1 => k_asm); (case hqk2 => k_mem); (case hqk3 => first | exact IntsAre.length (by assumption) | assumption); (case hqk4 => (first | lia | omega))); k_whole)))) | ((with_reducible show wpAny _ _ (subscriptTail _ _ (Value.ref _) _) _ _ _); (first | ((k_here; (with_reducible show wpAny _ _ (subscriptTail _ (PySem.Expr.Slice (some _) none (some _) _) (Value.ref _) (Value.ref _)) _ _ _); k_dflt (refine' kmk_slice3_lit ?hqF ?hqN ?hql ?hqp ?hqq ?hqk ?hqo ?hqe ?_ ?hqs ?hqt ?hqz; (case hqF | hqN => k_asm); (case hql => exact Fr.lst (by k_asm) (by k_asm)); (case hqp | hqq | hqk => kmk_part); (case hqo => decide); (case hqe => exact rfl); (case hqs => with_unfolding_all rfl); (case hqt => kmk_pure); (case hqz => (simp only [List.size_toArray, sizeLine_eq]; (first | lia | omega)))); intro _ _ _ _ hq_l1; (try k_lt hq_l1); (try k_sweep))) | ((k_here; (with_reducible show wpAny _ _ (subscriptTail _ _ (Value.ref _) (Value.int _ _)) _ _ _); k_dflt (refine' item_refM ?hqk1 ?hqk2 ?hqk4 ?hqk5 ?hqk6 ?_; (case hqk1 => k_asm); (case hqk2 => k_mem); (case hqk4 | hqk5 => (first | lia | omega)); (case hqk6 => assumption)); k_whole)) | ((k_here; (with_reducible show wpAny _ _ (subscriptTail _ (PySem.Expr.Slice none (some _) none _) (Value.ref _) (Value.ref _)) _ _ _); k_dflt (refine' kms_slice_lit ?hqF ?hqN ?hql ?hqp ?hqq ?hqe ?_ ?hqs ?hqt ?hqz; (case hqF | hqN => k_asm); (case hql => exact News.isList (by k_asm) (by k_mem)); (case hqp | hqq => kmk_part); (case hqe => assumption); (case hqs => with_unfolding_all rfl); (case hqt => kmk_pure); (case hqz => (simp only [List.size_toArray, sizeLine_eq]; (first | lia | omega)))); intro _ _ _ _ hq_l1; (try k_lt hq_l1); (try k_sweep))) | ((k_here; (with_reducible show wpAny _ _ (subscriptTail _ _ (Value.ref _) (Value.int 0 _)) _ _ _); k_dflt (refine' item_at0 ?hqk1 ?hqk2 ?_; (case hqk1 => k_asm); (case hqk2 => k_mem)); k_whole)) | ((k_here; (with_reducible show wpAny _ _ (subscriptTail _ _ (Value.ref _) (Value.int _ _)) _ _ _); k_dflt (refine' item_listM ?hqk1 ?hqk2 ?hqk3 ?hqk4 ?hqk5 ?hqk6 ?_; (case hqk1 => k_asm); (case hqk2 => k_mem); (case hqk3 => assumption); (case hqk4 | hqk5 | hqk6 => (first | lia | omega))); k_whole; intro _)) | ((k_here; (with_reducible show wpAny _ _ (subscriptTail _ _ (Value.ref _) (Value.int _ _)) _ _ _); k_dflt (refine' item_tupM ?hqk1 ?hqk2 ?hqk3 ?hqk4 ?hqk5 ?hqk6 ?_; (case hqk1 => k_asm); (case hqk2 => k_mem); (case hqk3 => assumption); (case hqk4 | hqk5 | hqk6 => (first | lia | omega))); k_whole; intro _)))) | ((with_reducible show wpAny _ _ (call (Value.ref _) _) _ _ _); ((k_here; (with_reducible show wpAny _ _ (call (Value.ref 108) _) _ _ _); k_dflt (refine' ct_useI (countOf_ct _ _ _ _ _ _ _ _ _ _) ?kB ?kF ?kX ?kN ?kT ?kk ?kP ?kd ?ku ?_; (((case kB | kF | kX | kN | kT => k_asm); (case kk => first | exact rfl | assumption); (case kP => (first | ((refine ⟨?_, by k_mem⟩; first | assumption | exact IsWord.mono (by assumption) (by (first | exact fun _ h => h | (intro p hp; k_ownIn) | (intro p hp; exact List.mem_append.mpr (.inl hp)) | (intro p hp; exact List.mem_cons_of_mem _ (List.mem_append.mpr (.inl hp))) | (intro p hp; simp only [List.mem_append, List.mem_cons] at *; simp [hp]))))) | (first | exact trivial | assumption | exact Ws.mono (by assumption) (by (first | exact fun _ h => h | (intro p hp; k_ownIn) | (intro p hp; exact List.mem_append.mpr (.inl hp)) | (intro p hp; exact List.mem_cons_of_mem _ (List.mem_append.mpr (.inl hp))) | (intro p hp; simp only [List.mem_append, List.mem_cons] at *; simp [hp])))))); (case kd | ku => (((try dsimp only [ktrTop, Around.deeper, Around.in1] at *); (first | lia | omega)))); k_whole; intro mq_tp mq_hp mq_tkp mq_Fp mq_Np; (try dsimp only); (try k_sweep); (try k_fold))))))) | ((k_here; (with_reducible show wpAny _ _ (binaryOp Operator.Add (Value.str _ _) (Value.str _ _)) _ _ _); k_dflt (refine' PyProof.Rows.add_str ?_ ?hqsz; (case hqsz => (simp only [Str.length_append, sizeLine_eq]; (first | lia | omega)))); intro _ _)) | ((with_reducible show wpAny _ _ (newTuple _) _ _ _); ((k_here; k_dflt (refine' kup_newTuple ?hqF ?hqN ?_ ?hqz; (case hqF | hqN => k_asm); (case hqz => kmk_size)); intro _ _ _ _ hq_l1; (try k_lt hq_l1); (try k_sweep)))) | ((k_here; (with_reducible show wpAny _ _ (call (Value.type _) [Value.ref _]) _ _ _); k_dflt (refine' kde_tupleOf ?hqk1 ?hqk2 ?hqk3 ?hqk4 ?hqk5 ?_; (case hqk1 | hqk2 => k_asm); (case hqk3 => exact News.isList (by k_asm) (by k_mem)); (case hqk4 => (simp only [List.size_toArray]; (first | lia | omega))); (case hqk5 => exact rfl); k_whole); intro _ _ _ _ hq_l1; (try k_lt hq_l1); (try k_sweep))))) | ((fail_if_success with_reducible (first | show wpAny _ _ (exec (Stmt.For _ _ _ _ _) _) _ _ _ | show wpAny _ _ (pyIter _) _ _ _ | show wpAny _ _ (exec (Stmt.Assign _ (Expr.ListComp _ _ _ _) _) _) _ _ _ | show wpAny _ _ (eval (Expr.ListComp _ _ _ _) _) _ _ _ | show LCg.CompSrc _ _ _ _ _ _ _ _ _ _ _ _ _ _ | show LCg.CompEnd _ _ _ _ _ _ _ _ _ _ _ _ _ _ | show LCt.CompSrcT _ _ _ _ _ _ _ _ _ _ _ _ _ _ _)); first | walk1 | (dsimp only; walk1)) | (leave1; try dsimp only) | fail))
        k_dflt (refine LCg.ListComp_U (F₀ := by k_asm) (by rfl) (by decide) (by rfl) (by decide) (by rfl) ?_)
        (repeat' (first | (k_unfold; (try dsimp only)) | (k_end; wrow_close) | ((with_reducible show wpAny _ _ (execs (_ :: _) _) _ _ (Shared.mk _ _ _ (_ + 1) _)); (with_reducible refine toks_cut ?_); intro _) | ((first | ((with_reducible show wpAny _ _ (call (Value.builtin _) _) _ _ _); (first | ((k_here; (with_reducible show wpAny _ _ (call (Value.builtin "sum") [Value.ref _]) _ _ _); k_dflt (refine' LSm.sum_ints ?hqF ?hqN ?hqh ?hql ?hqi ?_; (case hqF | hqN => k_asm); (case hqh => exact rfl); (case hql => exact News.isList (by k_asm) (by k_mem)); (case hqi => first | assumption | exact ints_pick (by assumption))); intro _ _ _ _ _; (try k_sweep))) | ((k_here; (with_reducible show wpAny _ _ (call (Value.builtin "str.join") [Value.str _ _, Value.ref _]) _ _ _); k_dflt (refine' join_listW ?hqk1 ?hqk2 ?hqk3 ?hqk4 ?_; (case hqk1 => exact News.isList (by k_asm) (by k_mem)); (case hqk2 => assumption); (case hqk3 => decide +kernel); (case hqk4 => assumption)); intro _ _)) | ((k_here; (with_reducible show wpAny _ _ (call (Value.builtin "len") [Value.ref _]) _ _ _); k_dflt (refine' len_tupM ?hqk1 ?hqk2 ?hqk3 ?hqk4 ?_; (case hqk1 => k_asm); (case hqk2 => k_mem); (case hqk3 => first | exact IntsAre.length (by assumption) | assumption); (case hqk4 => (first | lia | omega))); k_whole)) | ((k_here; (with_reducible show wpAny _ _ (call (Value.builtin "len") [Value.ref _]) _ _ _); k_dflt (refine' len_listM ?hqk1 ?hqk2 ?hqk3 ?hqk4 ?_; (case hqk1 => k_asm); (case hqk2 => k_mem); (case hqk3 => first | exact IntsAre.length (by assumption) | assumption); (case hqk4 => (first | lia | omega))); k_whole)))) | ((with_reducible show wpAny _ _ (subscriptTail _ _ (Value.ref _) _) _ _ _); (first | ((k_here; (with_reducible show wpAny _ _ (subscriptTail _ (PySem.Expr.Slice (some _) none (some _) _) (Value.ref _) (Value.ref _)) _ _ _); k_dflt (refine' kmk_slice3_lit ?hqF ?hqN ?hql ?hqp ?hqq ?hqk ?hqo ?hqe ?_ ?hqs ?hqt ?hqz; (case hqF | hqN => k_asm); (case hql => exact Fr.lst (by k_asm) (by k_asm)); (case hqp | hqq | hqk => kmk_part); (case hqo => decide); (case hqe => exact rfl); (case hqs => with_unfolding_all rfl); (case hqt => kmk_pure); (case hqz => (simp only [List.size_toArray, sizeLine_eq]; (first | lia | omega)))); intro _ _ _ _ hq_l1; (try k_lt hq_l1); (try k_sweep))) | ((k_here; (with_reducible show wpAny _ _ (subscriptTail _ _ (Value.ref _) (Value.int _ _)) _ _ _); k_dflt (refine' item_refM ?hqk1 ?hqk2 ?hqk4 ?hqk5 ?hqk6 ?_; (case hqk1 => k_asm); (case hqk2 => k_mem); (case hqk4 | hqk5 => (first | lia | omega)); (case hqk6 => assumption)); k_whole)) | ((k_here; (with_reducible show wpAny _ _ (subscriptTail _ (PySem.Expr.Slice none (some _) none _) (Value.ref _) (Value.ref _)) _ _ _); k_dflt (refine' kms_slice_lit ?hqF ?hqN ?hql ?hqp ?hqq ?hqe ?_ ?hqs ?hqt ?hqz; (case hqF | hqN => k_asm); (case hql => exact News.isList (by k_asm) (by k_mem)); (case hqp | hqq => kmk_part); (case hqe => assumption); (case hqs => with_unfolding_all rfl); (case hqt => kmk_pure); (case hqz => (simp only [List.size_toArray, sizeLine_eq]; (first | lia | omega)))); intro _ _ _ _ hq_l1; (try k_lt hq_l1); (try k_sweep))) | ((k_here; (with_reducible show wpAny _ _ (subscriptTail _ _ (Value.ref _) (Value.int 0 _)) _ _ _); k_dflt (refine' item_at0 ?hqk1 ?hqk2 ?_; (case hqk1 => k_asm); (case hqk2 => k_mem)); k_whole)) | ((k_here; (with_reducible show wpAny _ _ (subscriptTail _ _ (Value.ref _) (Value.int _ _)) _ _ _); k_dflt (refine' item_listM ?hqk1 ?hqk2 ?hqk3 ?hqk4 ?hqk5 ?hqk6 ?_; (case hqk1 => k_asm); (case hqk2 => k_mem); (case hqk3 => assumption); (case hqk4 | hqk5 | hqk6 => (first | lia | omega))); k_whole; intro _)) | ((k_here; (with_reducible show wpAny _ _ (subscriptTail _ _ (Value.ref _) (Value.int _ _)) _ _ _); k_dflt (refine' item_tupM ?hqk1 ?hqk2 ?hqk3 ?hqk4 ?hqk5 ?hqk6 ?_; (case hqk1 => k_asm); (case hqk2 => k_mem); (case hqk3 => assumption); (case hqk4 | hqk5 | hqk6 => (first | lia | omega))); k_whole; intro _)))) | ((with_reducible show wpAny _ _ (call (Value.ref _) _) _ _ _); ((k_here; (with_reducible show wpAny _ _ (call (Value.ref 108) _) _ _ _); k_dflt (refine' ct_useI (countOf_ct _ _ _ _ _ _ _ _ _ _) ?kB ?kF ?kX ?kN ?kT ?kk ?kP ?kd ?ku ?_; (((case kB | kF | kX | kN | kT => k_asm); (case kk => first | exact rfl | assumption); (case kP => (first | ((refine ⟨?_, by k_mem⟩; first | assumption | exact IsWord.mono (by assumption) (by (first | exact fun _ h => h | (intro p hp; k_ownIn) | (intro p hp; exact List.mem_append.mpr (.inl hp)) | (intro p hp; exact List.mem_cons_of_mem _ (List.mem_append.mpr (.inl hp))) | (intro p hp; simp only [List.mem_append, List.mem_cons] at *; simp [hp]))))) | (first | exact trivial | assumption | exact Ws.mono (by assumption) (by (first | exact fun _ h => h | (intro p hp; k_ownIn) | (intro p hp; exact List.mem_append.mpr (.inl hp)) | (intro p hp; exact List.mem_cons_of_mem _ (List.mem_append.mpr (.inl hp))) | (intro p hp; simp only [List.mem_append, List.mem_cons] at *; simp [hp])))))); (case kd | ku => (((try dsimp only [ktrTop, Around.deeper, Around.in1] at *); (first | lia | omega)))); k_whole; intro mq_tp mq_hp mq_tkp mq_Fp mq_Np; (try dsimp only); (try k_sweep); (try k_fold))))))) | ((k_here; (with_reducible show wpAny _ _ (binaryOp Operator.Add (Value.str _ _) (Value.str _ _)) _ _ _); k_dflt (refine' PyProof.Rows.add_str ?_ ?hqsz; (case hqsz => (simp only [Str.length_append, sizeLine_eq]; (first | lia | omega)))); intro _ _)) | ((with_reducible show wpAny _ _ (newTuple _) _ _ _); ((k_here; k_dflt (refine' kup_newTuple ?hqF ?hqN ?_ ?hqz; (case hqF | hqN => k_asm); (case hqz => kmk_size)); intro _ _ _ _ hq_l1; (try k_lt hq_l1); (try k_sweep)))) | ((k_here; (with_reducible show wpAny _ _ (call (Value.type _) [Value.ref _]) _ _ _); k_dflt (refine' kde_tupleOf ?hqk1 ?hqk2 ?hqk3 ?hqk4 ?hqk5 ?_; (case hqk1 | hqk2 => k_asm); (case hqk3 => exact News.isList (by k_asm) (by k_mem)); (case hqk4 => (simp only [List.size_toArray]; (first | lia | omega))); (case hqk5 => exact rfl); k_whole); intro _ _ _ _ hq_l1; (try k_lt hq_l1); (try k_sweep))))) | ((fail_if_success with_reducible (first | show wpAny _ _ (exec (Stmt.For _ _ _ _ _) _) _ _ _ | show wpAny _ _ (pyIter _) _ _ _ | show wpAny _ _ (exec (Stmt.Assign _ (Expr.ListComp _ _ _ _) _) _) _ _ _ | show wpAny _ _ (eval (Expr.ListComp _ _ _ _) _) _ _ _ | show LCg.CompSrc _ _ _ _ _ _ _ _ _ _ _ _ _ _ | show LCg.CompEnd _ _ _ _ _ _ _ _ _ _ _ _ _ _ | show LCt.CompSrcT _ _ _ _ _ _ _ _ _ _ _ _ _ _ _)); first | walk1 | (dsimp only; walk1)) | (leave1; try dsimp only) | fail))
        rename Fr _ _ _ _ => lF
        rename News _ _ _ _ => lN
        with_unfolding_all refine LCg.CompSrc.ledger (its := ys.toArray) (k := ys.length) (by rfl) lF lN (by k_mem) (by rw [List.size_toArray, hyl]; decide) ?_
        intro g3
        refine cr_inv (fun i zs nw' => ∃ tw, nw' = tw ++ (tl2 ++ news) ∧ Lets tw zs ((xs.take i).map (fun _ => 0)) ∧ Dj tw news) ⟨[], rfl, .nil, fun _ _ _ h => nomatch h⟩ ?_ ?_
        · intro i v I oI C oC D2 m₂ zs nw' h2 tk2 E' hi hv hJ hC hx F2 N2 off ne
          obtain ⟨tw, rfl, hlt, hdj⟩ := hJ
          obtain ⟨t2, rfl, hxg⟩ := ints_at hxi (by simpa using hv)
          rw [List.take_add_one, hxg, Option.toList_some, List.map_append]
          try k_fold
          (repeat' (first | (k_unfold; (try dsimp only)) | (k_end; wrow_close) | ((with_reducible show wpAny _ _ (execs (_ :: _) _) _ _ (Shared.mk _ _ _ (_ + 1) _)); (with_reducible refine toks_cut ?_); intro _) | ((first | ((with_reducible show wpAny _ _ (call (Value.builtin _) _) _ _ _); (first | ((k_here; (with_reducible show wpAny _ _ (call (Value.builtin "sum") [Value.ref _]) _ _ _); k_dflt (refine' LSm.sum_ints ?hqF ?hqN ?hqh ?hql ?hqi ?_; (case hqF | hqN => k_asm); (case hqh => exact rfl); (case hql => exact News.isList (by k_asm) (by k_mem)); (case hqi => first | assumption | exact ints_pick (by assumption))); intro _ _ _ _ _; (try k_sweep))) | ((k_here; (with_reducible show wpAny _ _ (call (Value.builtin "str.join") [Value.str _ _, Value.ref _]) _ _ _); k_dflt (refine' join_listW ?hqk1 ?hqk2 ?hqk3 ?hqk4 ?_; (case hqk1 => exact News.isList (by k_asm) (by k_mem)); (case hqk2 => assumption); (case hqk3 => decide +kernel); (case hqk4 => assumption)); intro _ _)) | ((k_here; (with_reducible show wpAny _ _ (call (Value.builtin "len") [Value.ref _]) _ _ _); k_dflt (refine' len_tupM ?hqk1 ?hqk2 ?hqk3 ?hqk4 ?_; (case hqk1 => k_asm); (case hqk2 => k_mem); (case hqk3 => first | exact IntsAre.length (by assumption) | assumption); (case hqk4 => (first | lia | omega))); k_whole)) | ((k_here; (with_reducible show wpAny _ _ (call (Value.builtin "len") [Value.ref _]) _ _ _); k_dflt (refine' len_listM ?hqk1 ?hqk2 ?hqk3 ?hqk4 ?_; (case hqk1 => k_asm); (case hqk2 => k_mem); (case hqk3 => first | exact IntsAre.length (by assumption) | assumption); (case hqk4 => (first | lia | omega))); k_whole)))) | ((with_reducible show wpAny _ _ (subscriptTail _ _ (Value.ref _) _) _ _ _); (first | ((k_here; (with_reducible show wpAny _ _ (subscriptTail _ (PySem.Expr.Slice (some _) none (some _) _) (Value.ref _) (Value.ref _)) _ _ _); k_dflt (refine' kmk_slice3_lit ?hqF ?hqN ?hql ?hqp ?hqq ?hqk ?hqo ?hqe ?_ ?hqs ?hqt ?hqz; (case hqF | hqN => k_asm); (case hql => exact Fr.lst (by k_asm) (by k_asm)); (case hqp | hqq | hqk => kmk_part); (case hqo => decide); (case hqe => exact rfl); (case hqs => with_unfolding_all rfl); (case hqt => kmk_pure); (case hqz => (simp only [List.size_toArray, sizeLine_eq]; (first | lia | omega)))); intro _ _ _ _ hq_l1; (try k_lt hq_l1); (try k_sweep))) | ((k_here; (with_reducible show wpAny _ _ (subscriptTail _ _ (Value.ref _) (Value.int _ _)) _ _ _); k_dflt (refine' item_refM ?hqk1 ?hqk2 ?hqk4 ?hqk5 ?hqk6 ?_; (case hqk1 => k_asm); (case hqk2 => k_mem); (case hqk4 | hqk5 => (first | lia | omega)); (case hqk6 => assumption)); k_whole)) | ((k_here; (with_reducible show wpAny _ _ (subscriptTail _ (PySem.Expr.Slice none (some _) none _) (Value.ref _) (Value.ref _)) _ _ _); k_dflt (refine' kms_slice_lit ?hqF ?hqN ?hql ?hqp ?hqq ?hqe ?_ ?hqs ?hqt ?hqz; (case hqF | hqN => k_asm); (case hql => exact News.isList (by k_asm) (by k_mem)); (case hqp | hqq => kmk_part); (case hqe => assumption); (case hqs => with_unfolding_all rfl); (case hqt => kmk_pure); (case hqz => (simp only [List.size_toArray, sizeLine_eq]; (first | lia | omega)))); intro _ _ _ _ hq_l1; (try k_lt hq_l1); (try k_sweep))) | ((k_here; (with_reducible show wpAny _ _ (subscriptTail _ _ (Value.ref _) (Value.int 0 _)) _ _ _); k_dflt (refine' item_at0 ?hqk1 ?hqk2 ?_; (case hqk1 => k_asm); (case hqk2 => k_mem)); k_whole)) | ((k_here; (with_reducible show wpAny _ _ (subscriptTail _ _ (Value.ref _) (Value.int _ _)) _ _ _); k_dflt (refine' item_listM ?hqk1 ?hqk2 ?hqk3 ?hqk4 ?hqk5 ?hqk6 ?_; (case hqk1 => k_asm); (case hqk2 => k_mem); (case hqk3 => assumption); (case hqk4 | hqk5 | hqk6 => (first | lia | omega))); k_whole; intro _)) | ((k_here; (with_reducible show wpAny _ _ (subscriptTail _ _ (Value.ref _) (Value.int _ _)) _ _ _); k_dflt (refine' item_tupM ?hqk1 ?hqk2 ?hqk3 ?hqk4 ?hqk5 ?hqk6 ?_; (case hqk1 => k_asm); (case hqk2 => k_mem); (case hqk3 => assumption); (case hqk4 | hqk5 | hqk6 => (first | lia | omega))); k_whole; intro _)))) | ((with_reducible show wpAny _ _ (call (Value.ref _) _) _ _ _); ((k_here; (with_reducible show wpAny _ _ (call (Value.ref 108) _) _ _ _); k_dflt (refine' ct_useI (countOf_ct _ _ _ _ _ _ _ _ _ _) ?kB ?kF ?kX ?kN ?kT ?kk ?kP ?kd ?ku ?_; (((case kB | kF | kX | kN | kT => k_asm); (case kk => first | exact rfl | assumption); (case kP => (first | ((refine ⟨?_, by k_mem⟩; first | assumption | exact IsWord.mono (by assumption) (by (first | exact fun _ h => h | (intro p hp; k_ownIn) | (intro p hp; exact List.mem_append.mpr (.inl hp)) | (intro p hp; exact List.mem_cons_of_mem _ (List.mem_append.mpr (.inl hp))) | (intro p hp; simp only [List.mem_append, List.mem_cons] at *; simp [hp]))))) | (first | exact trivial | assumption | exact Ws.mono (by assumption) (by (first | exact fun _ h => h | (intro p hp; k_ownIn) | (intro p hp; exact List.mem_append.mpr (.inl hp)) | (intro p hp; exact List.mem_cons_of_mem _ (List.mem_append.mpr (.inl hp))) | (intro p hp; simp only [List.mem_append, List.mem_cons] at *; simp [hp])))))); (case kd | ku => (((try dsimp only [ktrTop, Around.deeper, Around.in1] at *); (first | lia | omega)))); k_whole; intro mq_tp mq_hp mq_tkp mq_Fp mq_Np; (try dsimp only); (try k_sweep); (try k_fold))))))) | ((k_here; (with_reducible show wpAny _ _ (binaryOp Operator.Add (Value.str _ _) (Value.str _ _)) _ _ _); k_dflt (refine' PyProof.Rows.add_str ?_ ?hqsz; (case hqsz => (simp only [Str.length_append, sizeLine_eq]; (first | lia | omega)))); intro _ _)) | ((with_reducible show wpAny _ _ (newTuple _) _ _ _); ((k_here; k_dflt (refine' kup_newTuple ?hqF ?hqN ?_ ?hqz; (case hqF | hqN => k_asm); (case hqz => kmk_size)); intro _ _ _ _ hq_l1; (try k_lt hq_l1); (try k_sweep)))) | ((k_here; (with_reducible show wpAny _ _ (call (Value.type _) [Value.ref _]) _ _ _); k_dflt (refine' kde_tupleOf ?hqk1 ?hqk2 ?hqk3 ?hqk4 ?hqk5 ?_; (case hqk1 | hqk2 => k_asm); (case hqk3 => exact News.isList (by k_asm) (by k_mem)); (case hqk4 => (simp only [List.size_toArray]; (first | lia | omega))); (case hqk5 => exact rfl); k_whole); intro _ _ _ _ hq_l1; (try k_lt hq_l1); (try k_sweep))))) | ((fail_if_success with_reducible (first | show wpAny _ _ (exec (Stmt.For _ _ _ _ _) _) _ _ _ | show wpAny _ _ (pyIter _) _ _ _ | show wpAny _ _ (exec (Stmt.Assign _ (Expr.ListComp _ _ _ _) _) _) _ _ _ | show wpAny _ _ (eval (Expr.ListComp _ _ _ _) _) _ _ _ | show LCg.CompSrc _ _ _ _ _ _ _ _ _ _ _ _ _ _ | show LCg.CompEnd _ _ _ _ _ _ _ _ _ _ _ _ _ _ | show LCt.CompSrcT _ _ _ _ _ _ _ _ _ _ _ _ _ _ _)); first | walk1 | (dsimp only; walk1)) | (leave1; try dsimp only) | fail))
          rename (I < _ ∧ C < _ ∧ D2 < _ ∧ AllLt _ _) => hl
          exact LCg.CompEnd.intro (by k_asm) (by assumption) _ (fun p hp => wd_mem hp) ⟨⟨Nat.ne_of_gt hl.1, Nat.ne_of_gt hl.2.1, Nat.ne_of_gt hl.2.2.1⟩, off⟩ (Or.inr ⟨_, List.mem_cons_of_mem _ (List.mem_append.mpr (.inr (List.mem_append.mpr (.inl hnum2)))), rfl, _, rfl⟩) ⟨_ :: tw, rfl, lets_snoc hlt, dj_cons hdj (fun q hq => Nat.ne_of_lt (ktn_ltOf hl.2.2.2 q (List.mem_append.mpr (.inr (List.mem_append.mpr (.inr hq))))))⟩
        · intro zs3 nw' hJ
          obtain ⟨tw3, rfl, hlt3, hdj3⟩ := hJ
          rw [List.size_toArray, hyl, ← hxl, List.take_length] at hlt3
          unfold LCg.FinE
          intro D3 h3 tk3 F3 N3 o3
          obtain ⟨tl3, etl3⟩ : ∃ tl, tl = (D3, LCg.lst zs3) :: (tw3 ++ tl2) := ⟨_, rfl⟩
          replace N3 : News _ _ _ (tl3 ++ news) := kst_newsOf N3 (fun p hp => by rw [etl3] at hp; exact wd_mem2 hp)
          have dj3 : Dj tl3 news := by rw [etl3]; exact dj_next hdj3 dj2 o3
          have hwd3 : IsWord tl3 (.ref D3) (xs.map (fun _ => 0)) := by rw [etl3]; exact ⟨D3, zs3, _, rfl, .head _, hlt3.mono (fun p hp => .tail _ (List.mem_append.mpr (.inl hp)))⟩
          have hnum3 : (D, LCg.lst ys) ∈ tl3 := by rw [etl3]; exact .tail _ (List.mem_append.mpr (.inr hnum2))
          have hwd1'' : IsWord tl3 (.ref D1) (xs.map (fun x => x.fmod 3)) := by rw [etl3]; exact hwd1'.mono (fun p hp => .tail _ (List.mem_append.mpr (.inr hp)))
          have hwd2' : IsWord tl3 (.ref D2) (xs.map (fun x => (x.fdiv 3).fmod 3)) := by rw [etl3]; exact hwd2.mono (fun p hp => .tail _ (List.mem_append.mpr (.inr hp)))
          clear o3
          try k_fold
          (repeat' (first | (k_unfold; (try dsimp only)) | (k_end; wrow_close) | ((with_reducible show wpAny _ _ (execs (_ :: _) _) _ _ (Shared.mk _ _ _ (_ + 1) _)); (with_reducible refine toks_cut ?_); intro _) | ((first | ((with_reducible show wpAny _ _ (call (Value.builtin _) _) _ _ _); (first | ((k_here; (with_reducible show wpAny _ _ (call (Value.builtin "sum") [Value.ref _]) _ _ _); k_dflt (refine' LSm.sum_ints ?hqF ?hqN ?hqh ?hql ?hqi ?_; (case hqF | hqN => k_asm); (case hqh => exact rfl); (case hql => exact News.isList (by k_asm) (by k_mem)); (case hqi => first | assumption | exact ints_pick (by assumption))); intro _ _ _ _ _; (try k_sweep))) | ((k_here; (with_reducible show wpAny _ _ (call (Value.builtin "str.join") [Value.str _ _, Value.ref _]) _ _ _); k_dflt (refine' join_listW ?hqk1 ?hqk2 ?hqk3 ?hqk4 ?_; (case hqk1 => exact News.isList (by k_asm) (by k_mem)); (case hqk2 => assumption); (case hqk3 => decide +kernel); (case hqk4 => assumption)); intro _ _)) | ((k_here; (with_reducible show wpAny _ _ (call (Value.builtin "len") [Value.ref _]) _ _ _); k_dflt (refine' len_tupM ?hqk1 ?hqk2 ?hqk3 ?hqk4 ?_; (case hqk1 => k_asm); (case hqk2 => k_mem); (case hqk3 => first | exact IntsAre.length (by assumption) | assumption); (case hqk4 => (first | lia | omega))); k_whole)) | ((k_here; (with_reducible show wpAny _ _ (call (Value.builtin "len") [Value.ref _]) _ _ _); k_dflt (refine' len_listM ?hqk1 ?hqk2 ?hqk3 ?hqk4 ?_; (case hqk1 => k_asm); (case hqk2 => k_mem); (case hqk3 => first | exact IntsAre.length (by assumption) | assumption); (case hqk4 => (first | lia | omega))); k_whole)))) | ((with_reducible show wpAny _ _ (subscriptTail _ _ (Value.ref _) _) _ _ _); (first | ((k_here; (with_reducible show wpAny _ _ (subscriptTail _ (PySem.Expr.Slice (some _) none (some _) _) (Value.ref _) (Value.ref _)) _ _ _); k_dflt (refine' kmk_slice3_lit ?hqF ?hqN ?hql ?hqp ?hqq ?hqk ?hqo ?hqe ?_ ?hqs ?hqt ?hqz; (case hqF | hqN => k_asm); (case hql => exact Fr.lst (by k_asm) (by k_asm)); (case hqp | hqq | hqk => kmk_part); (case hqo => decide); (case hqe => exact rfl); (case hqs => with_unfolding_all rfl); (case hqt => kmk_pure); (case hqz => (simp only [List.size_toArray, sizeLine_eq]; (first | lia | omega)))); intro _ _ _ _ hq_l1; (try k_lt hq_l1); (try k_sweep))) | ((k_here; (with_reducible show wpAny _ _ (subscriptTail _ _ (Value.ref _) (Value.int _ _)) _ _ _); k_dflt (refine' item_refM ?hqk1 ?hqk2 ?hqk4 ?hqk5 ?hqk6 ?_; (case hqk1 => k_asm); (case hqk2 => k_mem); (case hqk4 | hqk5 => (first | lia | omega)); (case hqk6 => assumption)); k_whole)) | ((k_here; (with_reducible show wpAny _ _ (subscriptTail _ (PySem.Expr.Slice none (some _) none _) (Value.ref _) (Value.ref _)) _ _ _); k_dflt (refine' kms_slice_lit ?hqF ?hqN ?hql ?hqp ?hqq ?hqe ?_ ?hqs ?hqt ?hqz; (case hqF | hqN => k_asm); (case hql => exact News.isList (by k_asm) (by k_mem)); (case hqp | hqq => kmk_part); (case hqe => assumption); (case hqs => with_unfolding_all rfl); (case hqt => kmk_pure); (case hqz => (simp only [List.size_toArray, sizeLine_eq]; (first | lia | omega)))); intro _ _ _ _ hq_l1; (try k_lt hq_l1); (try k_sweep))) | ((k_here; (with_reducible show wpAny _ _ (subscriptTail _ _ (Value.ref _) (Value.int 0 _)) _ _ _); k_dflt (refine' item_at0 ?hqk1 ?hqk2 ?_; (case hqk1 => k_asm); (case hqk2 => k_mem)); k_whole)) | ((k_here; (with_reducible show wpAny _ _ (subscriptTail _ _ (Value.ref _) (Value.int _ _)) _ _ _); k_dflt (refine' item_listM ?hqk1 ?hqk2 ?hqk3 ?hqk4 ?hqk5 ?hqk6 ?_; (case hqk1 => k_asm); (case hqk2 => k_mem); (case hqk3 => assumption); (case hqk4 | hqk5 | hqk6 => (first | lia | omega))); k_whole; intro _)) | ((k_here; (with_reducible show wpAny _ _ (subscriptTail _ _ (Value.ref _) (Value.int _ _)) _ _ _); k_dflt (refine' item_tupM ?hqk1 ?hqk2 ?hqk3 ?hqk4 ?hqk5 ?hqk6 ?_; (case hqk1 => k_asm); (case hqk2 => k_mem); (case hqk3 => assumption); (case hqk4 | hqk5 | hqk6 => (first | lia | omega))); k_whole; intro _)))) | ((with_reducible show wpAny _ _ (call (Value.ref _) _) _ _ _); ((k_here; (with_reducible show wpAny _ _ (call (Value.ref 108) _) _ _ _); k_dflt (refine' ct_useI (countOf_ct _ _ _ _ _ _ _ _ _ _) ?kB ?kF ?kX ?kN ?kT ?kk ?kP ?kd ?ku ?_; (((case kB | kF | kX | kN | kT => k_asm); (case kk => first | exact rfl | assumption); (case kP => (first | ((refine ⟨?_, by k_mem⟩; first | assumption | exact IsWord.mono (by assumption) (by (first | exact fun _ h => h | (intro p hp; k_ownIn) | (intro p hp; exact List.mem_append.mpr (.inl hp)) | (intro p hp; exact List.mem_cons_of_mem _ (List.mem_append.mpr (.inl hp))) | (intro p hp; simp only [List.mem_append, List.mem_cons] at *; simp [hp]))))) | (first | exact trivial | assumption | exact Ws.mono (by assumption) (by (first | exact fun _ h => h | (intro p hp; k_ownIn) | (intro p hp; exact List.mem_append.mpr (.inl hp)) | (intro p hp; exact List.mem_cons_of_mem _ (List.mem_append.mpr (.inl hp))) | (intro p hp; simp only [List.mem_append, List.mem_cons] at *; simp [hp])))))); (case kd | ku => (((try dsimp only [ktrTop, Around.deeper, Around.in1] at *); (first | lia | omega)))); k_whole; intro mq_tp mq_hp mq_tkp mq_Fp mq_Np; (try dsimp only); (try k_sweep); (try k_fold))))))) | ((k_here; (with_reducible show wpAny _ _ (binaryOp Operator.Add (Value.str _ _) (Value.str _ _)) _ _ _); k_dflt (refine' PyProof.Rows.add_str ?_ ?hqsz; (case hqsz => (simp only [Str.length_append, sizeLine_eq]; (first | lia | omega)))); intro _ _)) | ((with_reducible show wpAny _ _ (newTuple _) _ _ _); ((k_here; k_dflt (refine' kup_newTuple ?hqF ?hqN ?_ ?hqz; (case hqF | hqN => k_asm); (case hqz => kmk_size)); intro _ _ _ _ hq_l1; (try k_lt hq_l1); (try k_sweep)))) | ((k_here; (with_reducible show wpAny _ _ (call (Value.type _) [Value.ref _]) _ _ _); k_dflt (refine' kde_tupleOf ?hqk1 ?hqk2 ?hqk3 ?hqk4 ?hqk5 ?_; (case hqk1 | hqk2 => k_asm); (case hqk3 => exact News.isList (by k_asm) (by k_mem)); (case hqk4 => (simp only [List.size_toArray]; (first | lia | omega))); (case hqk5 => exact rfl); k_whole); intro _ _ _ _ hq_l1; (try k_lt hq_l1); (try k_sweep))))) | ((fail_if_success with_reducible (first | show wpAny _ _ (exec (Stmt.For _ _ _ _ _) _) _ _ _ | show wpAny _ _ (pyIter _) _ _ _ | show wpAny _ _ (exec (Stmt.Assign _ (Expr.ListComp _ _ _ _) _) _) _ _ _ | show wpAny _ _ (eval (Expr.ListComp _ _ _ _) _) _ _ _ | show LCg.CompSrc _ _ _ _ _ _ _ _ _ _ _ _ _ _ | show LCg.CompEnd _ _ _ _ _ _ _ _ _ _ _ _ _ _ | show LCt.CompSrcT _ _ _ _ _ _ _ _ _ _ _ _ _ _ _)); first | walk1 | (dsimp only; walk1)) | (leave1; try dsimp only) | fail))
          rename (∀ p ∈ tl3 ++ news, p.1 < _) => hlw
          obtain ⟨la, ela⟩ := pickA hlw
          subst ela
          exact hret _ ((la, _) :: tl3) _ _ (by k_asm) (by assumption) (dj_cons dj3 (fun q hq => Nat.ne_of_lt (hlw q (List.mem_append.mpr (.inr hq))))) ⟨la, D1, D2, D3, 0, xs, rfl, hxl, .head _, hwd1''.mono (fun p hp => .tail _ hp), hwd2'.mono (fun p hp => .tail _ hp), hwd3.mono (fun p hp => .tail _ hp)⟩
/-- the sum over all orders, by its table -/
def tab (q : Int) (a b c : Nat) : Int :=
  (if a = 0 ∧ b = 0 ∧ c = 0 then 1 else 0) + (if _ : 0 < a then q ^ (b + c) * tab q (a - 1) b c else 0) + (if _ : 0 < b then q ^ c * tab q a (b - 1) c else 0) + (if _ : 0 < c then tab q a b (c - 1) else 0)
termination_by a + b + c
theorem tab_eq (q : Int) (a b c : Nat) : tab q a b c = (if a = 0 ∧ b = 0 ∧ c = 0 then 1 else 0) + (if 0 < a then q ^ (b + c) * tab q (a - 1) b c else 0) + (if 0 < b then q ^ c * tab q a (b - 1) c else 0) + (if 0 < c then tab q a b (c - 1) else 0) := by
  rw [tab]
  simp only [dite_eq_ite]
theorem pow_bound {q : Int} (hq : q.natAbs ≤ 2000) (n : Nat) (hn : n ≤ 6) : (q ^ n).natAbs ≤ 2000 ^ 6 := by
  rw [Int.natAbs_pow]
  exact Nat.le_trans (Nat.pow_le_pow_left hq n) (Nat.pow_le_pow_right (by decide) hn)
theorem tab_bound {q : Int} (hq : q.natAbs ≤ 2000) : ∀ (n a b c : Nat), a + b + c = n → b + c ≤ 6 → (tab q a b c).natAbs ≤ (3 * 2000 ^ 6) ^ n := by
  intro n
  induction n with
  | zero =>
    intro a b c hn hbc
    have ha : a = 0 := by (first | lia | omega)
    have hb : b = 0 := by (first | lia | omega)
    have hc : c = 0 := by (first | lia | omega)
    subst ha hb hc
    rw [tab_eq]
    simp
  | succ n ih =>
    intro a b c hn hbc
    rw [tab_eq]
    have h0 : ¬ (a = 0 ∧ b = 0 ∧ c = 0) := by (first | lia | omega)
    rw [if_neg h0]
    have e1 : (if 0 < a then q ^ (b + c) * tab q (a - 1) b c else 0).natAbs ≤ 2000 ^ 6 * (3 * 2000 ^ 6) ^ n := by
      split
      · rw [Int.natAbs_mul]
        exact Nat.mul_le_mul (pow_bound hq _ hbc) (ih (a - 1) b c (by (first | lia | omega)) hbc)
      · exact Nat.zero_le _
    have e2 : (if 0 < b then q ^ c * tab q a (b - 1) c else 0).natAbs ≤ 2000 ^ 6 * (3 * 2000 ^ 6) ^ n := by
      split
      · rw [Int.natAbs_mul]
        exact Nat.mul_le_mul (pow_bound hq _ (by (first | lia | omega))) (ih a (b - 1) c (by (first | lia | omega)) (by (first | lia | omega)))
      · exact Nat.zero_le _
    have e3 : (if 0 < c then tab q a b (c - 1) else 0).natAbs ≤ 2000 ^ 6 * (3 * 2000 ^ 6) ^ n := by
      split
      · refine Nat.le_trans (ih a b (c - 1) (by (first | lia | omega)) (by (first | lia | omega))) ?_
        exact Nat.le_mul_of_pos_left _ (by decide)
      · exact Nat.zero_le _
    rw [Nat.pow_succ]
    generalize (3 * 2000 ^ 6) ^ n = X at *
    generalize 2000 ^ 6 = Y at *
    have h1 := Int.natAbs_add_le (0 + (if 0 < a then q ^ (b + c) * tab q (a - 1) b c else 0) + (if 0 < b then q ^ c * tab q a (b - 1) c else 0)) (if 0 < c then tab q a b (c - 1) else 0)
    have h2 := Int.natAbs_add_le (0 + (if 0 < a then q ^ (b + c) * tab q (a - 1) b c else 0)) (if 0 < b then q ^ c * tab q a (b - 1) c else 0)
    have h3 : (0 + (if 0 < a then q ^ (b + c) * tab q (a - 1) b c else 0)).natAbs = (if 0 < a then q ^ (b + c) * tab q (a - 1) b c else 0).natAbs := by rw [Int.zero_add]
    have h4 : X * (3 * Y) = Y * X + Y * X + Y * X := by rw [Nat.mul_comm, Nat.mul_assoc]; (first | lia | omega)
    (first | lia | omega)
theorem pow_lt_big : (2000 ^ 6 : Nat) < 2 ^ 1000 := by
  refine Nat.lt_of_lt_of_le (m := 2 ^ 100) (by decide) (Nat.pow_le_pow_right (by decide) (by decide))
theorem pow_lt_big2 : ((3 * 2000 ^ 6) ^ 6 : Nat) < 2 ^ 1000 := by
  refine Nat.lt_of_lt_of_le (m := (2 ^ 100) ^ 6) (Nat.pow_lt_pow_left (by decide) (by decide)) ?_
  rw [← Nat.pow_mul]
  exact Nat.pow_le_pow_right (by decide) (by decide)
theorem mulOk_tab {q : Int} (hq : q.natAbs ≤ 2000) {a b c n : Nat} (habc : a + b + c ≤ 6) (hn : n ≤ 6) : IntMulOk (q ^ n) (tab q a b c) := by
  refine mulOk_of (Nat.lt_of_le_of_lt (pow_bound hq n hn) pow_lt_big) (Nat.lt_of_le_of_lt (tab_bound hq _ a b c rfl (by (first | lia | omega))) ?_)
  exact Nat.lt_of_le_of_lt (Nat.pow_le_pow_right (by decide) habc) pow_lt_big2
open PyProof.V PySem.Spec in
/-- the table's places that are filled -/
def Fil (q : Int) (c1 c2 i j k : Nat) (D : List (PyData × PyData)) : Prop :=
  ∀ a b c : Nat, b ≤ c1 → c ≤ c2 → (a < i ∨ (a = i ∧ (b < j ∨ (b = j ∧ c < k)))) → PySem.Spec.lookup (PyData.int ((0 + (a : Int)) * 64 + (0 + (b : Int)) * 8 + (0 + (c : Int)))) D = some (.int (tab q a b c))
def DictIs (w : World) (o : Obj) (D : List (PyData × PyData)) : Prop := ∃ kvs, o.IsDictOf (intKind PySem.Challenge.rw_pk0080_01.row.prog w) kvs ∧ PyProof.V.FlatPairs PyData.int kvs D
section
variable {w : World} {A : Around} {E : Value → Shared → Prop} {s : Shared} {h₀ : Heap} {L d : Addr} {m : Str → Option Value} {news : Led} {o : Obj} {D : List (PyData × PyData)}
theorem dget {value slice : Expr} {i x : Int} {t : Tok} {Q : Value → Shared → Prop} (N : News h₀ L s.heap news) (hm : (d, o) ∈ news) (lo : (d == sysModules) = false) (hd : DictIs w o D) (hl : PySem.Spec.lookup (.int i) D = some (.int x))
    (h : ∀ t', Q (.int x t') { s with toks := s.toks + 1 })
    (hs : subscripted slice false (.ref d) (.int i t) = operate [.ref d, .int i t] (getItem (.ref d) (.int i t)) := by with_unfolding_all rfl) (hg : ∀ r, letTemporaryGo value (.ref d) r = pure () := by intro _; with_unfolding_all rfl) :
    wpAny (model PySem.Challenge.rw_pk0080_01.row.prog w) A (subscriptTail value slice (.ref d) (.int i t)) Q E s := by
  obtain ⟨kvs, h1, h2⟩ := hd
  exact item_intTab (TabAt.ofNews N hm lo h1 h2) hl (fun v hv => by have hv' := hv s.heap; cases hv'; exact h _) hs hg
theorem dset {k x : Int} {t t' : Tok} {g : Obj → Led} {Q : Unit → Shared → Prop} (F : Fr h₀ L s.heap m) (N : News h₀ L s.heap news) (U : UpdF d o news g) (hd : DictIs w o D) (hsz : D.length ≤ 10000)
    (h : ∀ h' o', Fr h₀ L h' m → News h₀ L h' (g o') → DictIs w o' (PyProof.V.putD (.int k) (.int x) D) → Q () { s with heap := h', toks := s.toks + 1 }) :
    wpAny (model PySem.Challenge.rw_pk0080_01.row.prog w) A (setItem (.ref d) (.int k t) (.int x t')) Q E s := by
  obtain ⟨kvs, h1, h2⟩ := hd
  exact setItem_K PyProof.V.same_int (intKind_is _ _ _ _) (PyProof.V.Flat.int _ _) F N U h1 h2 (fun h' o' F' N' a b => h h' o' F' N' ⟨_, a, b⟩) (by rw [sizeLine_eq]; (first | lia | omega))
end
theorem Fil.put {q : Int} {c1 c2 i j k : Nat} {D : List (PyData × PyData)} (h : Fil q c1 c2 i j k D) (h1 : c1 ≤ 6) (h2 : c2 ≤ 6) (hj : j ≤ c1) (hk : k ≤ c2) : Fil q c1 c2 i j (k + 1) (PyProof.V.putD (.int ((0 + (i : Int)) * 64 + (0 + (j : Int)) * 8 + (0 + (k : Int)))) (.int (tab q i j k)) D) := by
  intro a b c hb hc hlt
  by_cases e : a = i ∧ b = j ∧ c = k
  · obtain ⟨rfl, rfl, rfl⟩ := e
    exact PyProof.V.lookup_putD_same _ _ _
  · rw [PyProof.V.lookup_putD_other (by (first | lia | omega))]
    exact h a b c hb hc (by (first | lia | omega))
theorem Fil.row {q : Int} {c1 c2 i j : Nat} {D : List (PyData × PyData)} (h : Fil q c1 c2 i j (c2 + 1) D) : Fil q c1 c2 i (j + 1) 0 D := fun a b c hb hc hlt => h a b c hb hc (by (first | lia | omega))
theorem Fil.plane {q : Int} {c1 c2 i : Nat} {D : List (PyData × PyData)} (h : Fil q c1 c2 i (c1 + 1) 0 D) : Fil q c1 c2 (i + 1) 0 0 D := fun a b c hb hc hlt => h a b c hb hc (by (first | lia | omega))
theorem ints3 {ys : List Value} {a b c : Int} (h : IntsAre ys [a, b, c]) : ∃ t0 t1 t2, ys = [.int a t0, .int b t1, .int c t2] := by
  cases h with
  | cons _ t0 h => cases h with
    | cons _ t1 h => cases h with
      | cons _ t2 h => cases h with
        | nil => exact ⟨t0, t1, t2, rfl⟩
theorem wo_mem1 {p a : Addr × Obj} {R own : Led} (h : p ∈ a :: R) : p ∈ a :: (R ++ own) := by
  rcases List.mem_cons.mp h with h | h
  · exact h ▸ .head _
  · exact .tail _ (List.mem_append.mpr (.inl h))
theorem wo_mem2 {p a : Addr × Obj} {R own : Led} (h : p ∈ own) : p ∈ a :: (R ++ own) := .tail _ (List.mem_append.mpr (.inr h))
theorem wo_off {td : Addr} {o o2 : Obj} {R own : Led} (h : OwnOff own (((td, o) :: R).map (·.1))) : OwnOff own (((td, o2) :: R).map (·.1)) := h
theorem DictIs.congr {w : World} {o : Obj} {p : PyData} {x y : Int} {D : List (PyData × PyData)} (h : DictIs w o (PyProof.V.putD p (.int x) D)) (e : x = y) : DictIs w o (PyProof.V.putD p (.int y) D) := e ▸ h
theorem pickTd {x y td : Addr} {news : Led} (_ : x < td ∧ y < td ∧ AllLt td news) : ∃ a : Addr, a = td := ⟨td, rfl⟩
theorem pickDo {prog : Program} {w : World} {o : Obj} {kvs : List (Int × Value)} (_ : o.IsDictOf (intKind prog w) kvs) : ∃ a : Obj, a = o := ⟨o, rfl⟩
theorem ne_app {R own : Led} {td : Addr} (h1 : ∀ p ∈ R, p.1 ≠ td) (h2 : ∀ p ∈ own, p.1 ≠ td) : ∀ p ∈ R ++ own, p.1 ≠ td := fun p hp => (List.mem_append.mp hp).elim (h1 p) (h2 p)
def plv (i j k : Nat) : Int := (0 + (i : Int)) * 64 + (0 + (j : Int)) * 8 + (0 + (k : Int))
structure WoSt where
  o : Obj
  D : List (PyData × PyData)
  pl : Option (Int × Tok)
def plP (p : Option (Int × Tok)) : List (Str × Value) := match p with
  | none => []
  | some v => [(Str.ofString "place", .int v.1 v.2)]
theorem forgetP {h₀ h : Heap} {L : Addr} {x : Str} {v : Value} {stored : List Str} {u m₀ : Str → Option Value} {pl : Option (Int × Tok)} (hs : stored.contains (Str.ofString "place") = true) (F : Fr h₀ L h (fun y => if y = x then some v else kstB (fun z => if stored.contains z then u z else m₀ z) (plP pl) y)) :
    ∃ u2 : Str → Option Value, Fr h₀ L h (fun y => if y = x then some v else kstB (fun z => if stored.contains z then u2 z else m₀ z) [] y) := by
  refine ⟨fun z => kstB (fun z => if stored.contains z then u z else m₀ z) (plP pl) z, ?_⟩
  have e : (fun y => if y = x then some v else kstB (fun z => if stored.contains z then u z else m₀ z) (plP pl) y) = fun y => if y = x then some v else kstB (fun z => if stored.contains z then kstB (fun z => if stored.contains z then u z else m₀ z) (plP pl) z else m₀ z) [] y := by
    funext y
    by_cases hy : y = x
    · rw [if_pos hy, if_pos hy]
    · rw [if_neg hy, if_neg hy]
      show _ = if stored.contains y = true then _ else _
      cases hc : stored.contains y with
      | true => rw [if_pos rfl]
      | false =>
        rw [if_neg (by decide)]
        cases pl with
        | none => show (if stored.contains y = true then _ else _) = _; rw [hc, if_neg (by decide)]
        | some p =>
          have hne : y ≠ Str.ofString "place" := fun e => by rw [e, hs] at hc; cases hc
          show (if y = Str.ofString "place" then _ else if stored.contains y = true then _ else _) = _
          rw [if_neg hne, hc, if_neg (by decide)]
  rw [e] at F
  exact F
theorem W0_eq (i j k : Nat) : (if (0 + (i : Int)) * 64 + (0 + (j : Int)) * 8 + (0 + (k : Int)) = 0 then (1 : Int) else 0) = if i = 0 ∧ j = 0 ∧ k = 0 then 1 else 0 := by
  by_cases h : i = 0 ∧ j = 0 ∧ k = 0
  · rw [if_pos h, if_pos (by (first | lia | omega))]
  · rw [if_neg h, if_neg (by (first | lia | omega))]
def IvP (s : Shared) (v : Int) (val : Value) (s' : Shared) : Prop := ∃ tk t, val = .int v t ∧ s' = { s with toks := tk }
theorem iv_join {M : Model} {A : Around} {t : Sem Value} {Q E : Value → Shared → Prop} {s : Shared} (v : Int) (h1 : wpAny M A t (IvP s v) E s) (h2 : ∀ tk t, Q (.int v t) { s with toks := tk }) : wpAny M A t Q E s :=
  wpAny_mono h1 (fun _ _ ⟨tk, t, e1, e2⟩ => by rw [e1, e2]; exact h2 tk t) fun _ _ e => e
theorem iv_t {c : Prop} [Decidable c] {a b : Int} {s s' : Shared} {t : Tok} {tk : Nat} (h : c) (e : s' = { s with toks := tk }) : IvP s (if c then a else b) (.int a t) s' := ⟨tk, t, by rw [if_pos h], e⟩
theorem iv_f {c : Prop} [Decidable c] {a b : Int} {s s' : Shared} {t : Tok} {tk : Nat} (h : ¬ c) (e : s' = { s with toks := tk }) : IvP s (if c then a else b) (.int b t) s' := ⟨tk, t, by rw [if_neg h], e⟩
def IfEnd (h₀ : Heap) (L : Addr) (m : Str → Option Value) (news : Led) (s : Shared) (x : Str) (v : Int) (f : Flow) (s' : Shared) : Prop :=
  ∃ h' tk u m1, f = Flow.next ∧ s' = { s with heap := h', toks := tk } ∧ Fr h₀ L h' m1 ∧ News h₀ L h' news ∧ (∃ v', m1 x = some (.int v' u) ∧ v' = v) ∧ ∀ y, y ≠ x → m1 y = m y
theorem if_end {h₀ h' : Heap} {L : Addr} {m m1 : Str → Option Value} {news : Led} {s s' : Shared} {x : Str} {v v' : Int} {u : Tok} {tk : Nat} (F : Fr h₀ L h' m1) (N : News h₀ L h' news) (es : s' = { s with heap := h', toks := tk }) (hx : m1 x = some (.int v' u)) (hv : v' = v) (hy : ∀ y, y ≠ x → m1 y = m y) : IfEnd h₀ L m news s x v .next s' :=
  ⟨h', tk, u, m1, rfl, es, F, N, ⟨v', hx, hv⟩, hy⟩
theorem if_int {M : Model} {A : Around} {t : Sem Flow} {Q : Flow → Shared → Prop} {E : Value → Shared → Prop} {s : Shared} {h₀ : Heap} {L : Addr} {m : Str → Option Value} {news : Led} (_ : Fr h₀ L s.heap m) (_ : News h₀ L s.heap news) (x : Str) (v : Int)
    (h1 : wpAny M A t (IfEnd h₀ L m news s x v) E s)
    (h2 : ∀ h' tk u, Fr h₀ L h' (fun y => if y = x then some (.int v u) else m y) → News h₀ L h' news → Q .next { s with heap := h', toks := tk }) : wpAny M A t Q E s := by
  refine wpAny_mono h1 (fun f s' p => ?_) fun _ _ e => e
  obtain ⟨h', tk, u, m1, rfl, rfl, F, N, ⟨v', hx, rfl⟩, hy⟩ := p
  refine h2 h' tk u ?_ N
  have e : (fun y => if y = x then some (.int v' u) else m y) = m1 := by
    funext y
    by_cases h : y = x
    · rw [if_pos h, h, hx]
    · rw [if_neg h, hy y h]
  rw [e]
  exact F
theorem worth_ct (w : World) (mean : ExcName → Option Value) (mg mb : Str → Option Value) (v : Value) (ls : List Int) (q : Int) (tq : Tok) (hl6 : ls.length = 6) (hq : q.natAbs ≤ 2000) (c0 c1 c2 : Nat) (hc0 : cnt ls 0 = c0) (hc1 : cnt ls 1 = c1) (hc2 : cnt ls 2 = c2) (hsum : c0 + c1 + c2 = 6) :
   Ct w mean mg mb 135 3 [v, .int q tq] (fun news => IsWord news v ls)
    (fun news tl r => tl = [] ∧ ∃ t, r = .int (tab q c0 c1 c2) t) := by
  unfold Ct
  k_fill
  intro dp un gd cs' cs a ccd cl outer A₀ base h₀ L m news s Q E B F X N T hk hP hd hu hret
  obtain ⟨aw, vs, nw, rfl, hw, hls⟩ := id hP
  refine wpAny_call ?_
  k_dflt (((refine' code_defC ?k1 ?k2 ?k3 ?k4 ?k5 ?kA ?kF ?kK ?k6 ?k7 ?k8 ?k9 ?kB ?kD ?_ ?c2 ?c3 ?c4; (case kA | kF => exact rfl); (case kK => assumption); (case k1 | k2 | k3 | k4 | k5 => k_asm); (case k6 | k7 => k_is); (case k8 => ktr_room); (case k9 => exact BindsTo.of_eq rfl); (case kB => exact rfl); (case kD => decide +kernel); (case c2 | c3 | c4 => exact rfl); k_whole; intro g' L' mq_hp mq_tkp cells' FG' mq_Fp mq_Np Y' B' X' T' mq_l1; (try k_lt mq_l1); k_cells Y'; (try simp only [List.cons_append, List.nil_append] at mq_Np); (try dsimp only); (try k_fold))))
  rename Fr _ _ _ (bindL _ _ _) => lF
  with_unfolding_all replace lF : Fr _ _ _ (kstB (fun _ => none) [(Str.ofString "q", .int q tq)]) := lF
  rename (∀ p ∈ news, p.1 < _) => hl1
  obtain ⟨Lc, eL⟩ := pickA hl1
  subst eL
  rename (Obj.data _ = Data.cell _) => d1
  obtain ⟨o1, eo1⟩ := pickC d1
  subst eo1
  with_unfolding_all replace d1 : o1.data = .cell (some (.ref aw)) := d1
  (repeat' (first | (k_unfold; (try dsimp only)) | (k_end; wrow_close) | ((with_reducible show wpAny _ _ (execs (_ :: _) _) _ _ (Shared.mk _ _ _ (_ + 1) _)); (with_reducible refine toks_cut ?_); intro _) | ((first | ((with_reducible show wpAny _ _ (subscriptTail _ _ (Value.ref _) _) _ _ _); (first | ((k_here; (with_reducible show wpAny _ _ (subscriptTail _ _ (Value.ref _) (Value.int _ _)) _ _ _); k_dflt (refine' item_refM ?hqk1 ?hqk2 ?hqk4 ?hqk5 ?hqk6 ?_; (case hqk1 => k_asm); (case hqk2 => k_mem); (case hqk4 | hqk5 => (first | lia | omega)); (case hqk6 => first | assumption | exact rfl)); k_whole)) | ((k_here; (with_reducible show wpAny _ _ (subscriptTail _ _ (Value.ref _) (Value.int _ _)) _ _ _); k_dflt (refine' dget ?hqk1 ?hqk2 ?hqk3 ?hqk4 ?hqk5 ?_; (case hqk1 => k_asm); (case hqk2 => k_mem); (case hqk3 | hqk4 => assumption); (case hqk5 => first | assumption | (apply_assumption; (first | lia | omega)))); k_whole; intro _)) | ((k_here; (with_reducible show wpAny _ _ (subscriptTail _ _ (Value.ref _) (Value.int _ _)) _ _ _); k_dflt (refine' item_listM ?hqk1 ?hqk2 ?hqk3 ?hqk4 ?hqk5 ?hqk6 ?_; (case hqk1 => k_asm); (case hqk2 => k_mem); (case hqk3 => assumption); (case hqk4 | hqk5 | hqk6 => (first | lia | omega))); k_whole; intro _)) | ((k_here; (with_reducible show wpAny _ _ (subscriptTail _ _ (Value.ref _) (Value.int _ _)) _ _ _); k_dflt (refine' item_tupM ?hqk1 ?hqk2 ?hqk3 ?hqk4 ?hqk5 ?hqk6 ?_; (case hqk1 => k_asm); (case hqk2 => k_mem); (case hqk3 => assumption); (case hqk4 | hqk5 | hqk6 => (first | lia | omega))); k_whole; intro _)))) | ((k_here; (with_reducible show wpAny _ _ (setItem (Value.ref _) (Value.int _ _) (Value.int _ _)) _ _ _); k_dflt (refine' dset ?hqF ?hqN ?hqU ?hqd ?hqz ?_; (case hqF | hqN => k_asm); (case hqU => k_updF); (case hqd => assumption); (case hqz => (first | lia | omega))); intro _ _ _ hq_Np _; (try dsimp only at hq_Np); (try k_sweep))) | ((with_reducible show wpAny _ _ (call (Value.ref _) _) _ _ _); (first | ((k_here; (with_reducible show wpAny _ _ (call (Value.ref 115) _) _ _ _); k_dflt (refine' ct_useI (ipow_ct _ _ _ _ _ _ _ _ ?hqh1 ?hqh2 ?hqh3) ?kB ?kF ?kX ?kN ?kT ?kk ?kP ?kd ?ku ?_; (case hqh1 => first | assumption | (first | lia | omega)); (case hqh2 | hqh3 => (first | lia | omega)); (((case kB | kF | kX | kN | kT => k_asm); (case kk => first | exact rfl | assumption); (case kP => exact trivial); (case kd | ku => (((try dsimp only [ktrTop, Around.deeper, Around.in1] at *); (first | lia | omega)))); k_whole; intro mq_tp mq_hp mq_tkp mq_Fp mq_Np; (try dsimp only); (try k_sweep); (try k_fold)))))) | ((k_here; (with_reducible show wpAny _ _ (call (Value.ref 94) _) _ _ _); k_dflt (refine' ct_useI (mod_ct _ _ _ _ _ _ _ _ ?hqhm) ?kB ?kF ?kX ?kN ?kT ?kk ?kP ?kd ?ku ?_; (case hqhm => first | assumption | (first | lia | omega)); (((case kB | kF | kX | kN | kT => k_asm); (case kk => first | exact rfl | assumption); (case kP => exact trivial); (case kd | ku => (((try dsimp only [ktrTop, Around.deeper, Around.in1] at *); (first | lia | omega)))); k_whole; intro mq_tp mq_hp mq_tkp mq_Fp mq_Np; (try dsimp only); (try k_sweep); (try k_fold)))))) | ((k_here; (with_reducible show wpAny _ _ (call (Value.ref 101) _) _ _ _); k_dflt (refine' ct_useI (mul_ct _ _ _ _ _ _ _ _ ?hqhm) ?kB ?kF ?kX ?kN ?kT ?kk ?kP ?kd ?ku ?_; (case hqhm => first | assumption | (apply_assumption; (first | lia | omega))); (((case kB | kF | kX | kN | kT => k_asm); (case kk => first | exact rfl | assumption); (case kP => exact trivial); (case kd | ku => (((try dsimp only [ktrTop, Around.deeper, Around.in1] at *); (first | lia | omega)))); k_whole; intro mq_tp mq_hp mq_tkp mq_Fp mq_Np; (try dsimp only); (try k_sweep); (try k_fold)))))) | ((k_here; (with_reducible show wpAny _ _ (call (Value.ref 87) _) _ _ _); k_dflt (refine' ct_useI (add_ct _ _ _ _ _ _ _ _) ?kB ?kF ?kX ?kN ?kT ?kk ?kP ?kd ?ku ?_; (((case kB | kF | kX | kN | kT => k_asm); (case kk => first | exact rfl | assumption); (case kP => exact trivial); (case kd | ku => (((try dsimp only [ktrTop, Around.deeper, Around.in1] at *); (first | lia | omega)))); k_whole; intro mq_tp mq_hp mq_tkp mq_Fp mq_Np; (try dsimp only); (try k_sweep); (try k_fold)))))) | ((k_here; (with_reducible show wpAny _ _ (call (Value.ref 108) _) _ _ _); k_dflt (refine' ct_useI (countOf_ct _ _ _ _ _ _ _ _ _ _) ?kB ?kF ?kX ?kN ?kT ?kk ?kP ?kd ?ku ?_; (((case kB | kF | kX | kN | kT => k_asm); (case kk => first | exact rfl | assumption); (case kP => (first | ((refine ⟨?_, by k_mem⟩; first | assumption | exact IsWord.mono (by assumption) (by (first | exact fun _ h => h | (intro p hp; k_ownIn) | (intro p hp; exact List.mem_append.mpr (.inl hp)) | (intro p hp; exact List.mem_cons_of_mem _ (List.mem_append.mpr (.inl hp))) | (intro p hp; simp only [List.mem_append, List.mem_cons] at *; simp [hp]))))) | (first | exact trivial | assumption | exact Ws.mono (by assumption) (by (first | exact fun _ h => h | (intro p hp; k_ownIn) | (intro p hp; exact List.mem_append.mpr (.inl hp)) | (intro p hp; exact List.mem_cons_of_mem _ (List.mem_append.mpr (.inl hp))) | (intro p hp; simp only [List.mem_append, List.mem_cons] at *; simp [hp])))))); (case kd | ku => (((try dsimp only [ktrTop, Around.deeper, Around.in1] at *); (first | lia | omega)))); k_whole; intro mq_tp mq_hp mq_tkp mq_Fp mq_Np; (try dsimp only); (try k_sweep); (try k_fold)))))))) | ((with_reducible show wpAny _ _ (newTuple _) _ _ _); ((k_here; k_dflt (refine' kup_newTuple ?hqF ?hqN ?_ ?hqz; (case hqF | hqN => k_asm); (case hqz => kmk_size)); intro _ _ _ _ hq_l1; (try k_lt hq_l1); (try k_sweep)))) | ((k_here; (with_reducible show wpAny _ _ (call (Value.type _) [Value.ref _]) _ _ _); k_dflt (refine' kde_tupleOf ?hqk1 ?hqk2 ?hqk3 ?hqk4 ?hqk5 ?_; (case hqk1 | hqk2 => k_asm); (case hqk3 => exact News.isList (by k_asm) (by k_mem)); (case hqk4 => (simp only [List.size_toArray]; (first | lia | omega))); (case hqk5 => exact rfl); k_whole); intro _ _ _ _ hq_l1; (try k_lt hq_l1); (try k_sweep))) | ((with_reducible show wpAny _ _ (call (Value.builtin _) _) _ _ _); (first | ((k_here; (with_reducible show wpAny _ _ (call (Value.builtin "len") [Value.ref _]) _ _ _); k_dflt (refine' len_tupM ?hqk1 ?hqk2 ?hqk3 ?hqk4 ?_; (case hqk1 => k_asm); (case hqk2 => k_mem); (case hqk3 => first | exact IntsAre.length (by assumption) | assumption); (case hqk4 => (first | lia | omega))); k_whole)) | ((k_here; (with_reducible show wpAny _ _ (call (Value.builtin "len") [Value.ref _]) _ _ _); k_dflt (refine' len_listM ?hqk1 ?hqk2 ?hqk3 ?hqk4 ?_; (case hqk1 => k_asm); (case hqk2 => k_mem); (case hqk3 => first | exact IntsAre.length (by assumption) | assumption); (case hqk4 => (first | lia | omega))); k_whole)))))) | ((fail_if_success with_reducible (first | show wpAny _ _ (exec (Stmt.For _ _ _ _ _) _) _ _ _ | show wpAny _ _ (pyIter _) _ _ _ | show wpAny _ _ (exec (Stmt.Assign _ (Expr.ListComp _ _ _ _) _) _) _ _ _ | show wpAny _ _ (eval (Expr.ListComp _ _ _ _) _) _ _ _ | show LCg.CompSrc _ _ _ _ _ _ _ _ _ _ _ _ _ _ | show LCg.CompEnd _ _ _ _ _ _ _ _ _ _ _ _ _ _ | show LCt.CompSrcT _ _ _ _ _ _ _ _ _ _ _ _ _ _ _)); first | walk1 | (dsimp only; walk1)) | (leave1; try dsimp only) | fail))
  k_dflt (refine LCg.Assign_ListComp_U (F₀ := by k_asm) (by rfl) (by with_unfolding_all rfl) (by rfl) (by decide) (by rfl) (by decide) (by rfl) (by rfl) (by rfl) ?_)
  (repeat' (first | (k_unfold; (try dsimp only)) | (k_end; wrow_close) | ((with_reducible show wpAny _ _ (execs (_ :: _) _) _ _ (Shared.mk _ _ _ (_ + 1) _)); (with_reducible refine toks_cut ?_); intro _) | ((first | ((with_reducible show wpAny _ _ (subscriptTail _ _ (Value.ref _) _) _ _ _); (first | ((k_here; (with_reducible show wpAny _ _ (subscriptTail _ _ (Value.ref _) (Value.int _ _)) _ _ _); k_dflt (refine' item_refM ?hqk1 ?hqk2 ?hqk4 ?hqk5 ?hqk6 ?_; (case hqk1 => k_asm); (case hqk2 => k_mem); (case hqk4 | hqk5 => (first | lia | omega)); (case hqk6 => first | assumption | exact rfl)); k_whole)) | ((k_here; (with_reducible show wpAny _ _ (subscriptTail _ _ (Value.ref _) (Value.int _ _)) _ _ _); k_dflt (refine' dget ?hqk1 ?hqk2 ?hqk3 ?hqk4 ?hqk5 ?_; (case hqk1 => k_asm); (case hqk2 => k_mem); (case hqk3 | hqk4 => assumption); (case hqk5 => first | assumption | (apply_assumption; (first | lia | omega)))); k_whole; intro _)) | ((k_here; (with_reducible show wpAny _ _ (subscriptTail _ _ (Value.ref _) (Value.int _ _)) _ _ _); k_dflt (refine' item_listM ?hqk1 ?hqk2 ?hqk3 ?hqk4 ?hqk5 ?hqk6 ?_; (case hqk1 => k_asm); (case hqk2 => k_mem); (case hqk3 => assumption); (case hqk4 | hqk5 | hqk6 => (first | lia | omega))); k_whole; intro _)) | ((k_here; (with_reducible show wpAny _ _ (subscriptTail _ _ (Value.ref _) (Value.int _ _)) _ _ _); k_dflt (refine' item_tupM ?hqk1 ?hqk2 ?hqk3 ?hqk4 ?hqk5 ?hqk6 ?_; (case hqk1 => k_asm); (case hqk2 => k_mem); (case hqk3 => assumption); (case hqk4 | hqk5 | hqk6 => (first | lia | omega))); k_whole; intro _)))) | ((k_here; (with_reducible show wpAny _ _ (setItem (Value.ref _) (Value.int _ _) (Value.int _ _)) _ _ _); k_dflt (refine' dset ?hqF ?hqN ?hqU ?hqd ?hqz ?_; (case hqF | hqN => k_asm); (case hqU => k_updF); (case hqd => assumption); (case hqz => (first | lia | omega))); intro _ _ _ hq_Np _; (try dsimp only at hq_Np); (try k_sweep))) | ((with_reducible show wpAny _ _ (call (Value.ref _) _) _ _ _); (first | ((k_here; (with_reducible show wpAny _ _ (call (Value.ref 115) _) _ _ _); k_dflt (refine' ct_useI (ipow_ct _ _ _ _ _ _ _ _ ?hqh1 ?hqh2 ?hqh3) ?kB ?kF ?kX ?kN ?kT ?kk ?kP ?kd ?ku ?_; (case hqh1 => first | assumption | (first | lia | omega)); (case hqh2 | hqh3 => (first | lia | omega)); (((case kB | kF | kX | kN | kT => k_asm); (case kk => first | exact rfl | assumption); (case kP => exact trivial); (case kd | ku => (((try dsimp only [ktrTop, Around.deeper, Around.in1] at *); (first | lia | omega)))); k_whole; intro mq_tp mq_hp mq_tkp mq_Fp mq_Np; (try dsimp only); (try k_sweep); (try k_fold)))))) | ((k_here; (with_reducible show wpAny _ _ (call (Value.ref 94) _) _ _ _); k_dflt (refine' ct_useI (mod_ct _ _ _ _ _ _ _ _ ?hqhm) ?kB ?kF ?kX ?kN ?kT ?kk ?kP ?kd ?ku ?_; (case hqhm => first | assumption | (first | lia | omega)); (((case kB | kF | kX | kN | kT => k_asm); (case kk => first | exact rfl | assumption); (case kP => exact trivial); (case kd | ku => (((try dsimp only [ktrTop, Around.deeper, Around.in1] at *); (first | lia | omega)))); k_whole; intro mq_tp mq_hp mq_tkp mq_Fp mq_Np; (try dsimp only); (try k_sweep); (try k_fold)))))) | ((k_here; (with_reducible show wpAny _ _ (call (Value.ref 101) _) _ _ _); k_dflt (refine' ct_useI (mul_ct _ _ _ _ _ _ _ _ ?hqhm) ?kB ?kF ?kX ?kN ?kT ?kk ?kP ?kd ?ku ?_; (case hqhm => first | assumption | (apply_assumption; (first | lia | omega))); (((case kB | kF | kX | kN | kT => k_asm); (case kk => first | exact rfl | assumption); (case kP => exact trivial); (case kd | ku => (((try dsimp only [ktrTop, Around.deeper, Around.in1] at *); (first | lia | omega)))); k_whole; intro mq_tp mq_hp mq_tkp mq_Fp mq_Np; (try dsimp only); (try k_sweep); (try k_fold)))))) | ((k_here; (with_reducible show wpAny _ _ (call (Value.ref 87) _) _ _ _); k_dflt (refine' ct_useI (add_ct _ _ _ _ _ _ _ _) ?kB ?kF ?kX ?kN ?kT ?kk ?kP ?kd ?ku ?_; (((case kB | kF | kX | kN | kT => k_asm); (case kk => first | exact rfl | assumption); (case kP => exact trivial); (case kd | ku => (((try dsimp only [ktrTop, Around.deeper, Around.in1] at *); (first | lia | omega)))); k_whole; intro mq_tp mq_hp mq_tkp mq_Fp mq_Np; (try dsimp only); (try k_sweep); (try k_fold)))))) | ((k_here; (with_reducible show wpAny _ _ (call (Value.ref 108) _) _ _ _); k_dflt (refine' ct_useI (countOf_ct _ _ _ _ _ _ _ _ _ _) ?kB ?kF ?kX ?kN ?kT ?kk ?kP ?kd ?ku ?_; (((case kB | kF | kX | kN | kT => k_asm); (case kk => first | exact rfl | assumption); (case kP => (first | ((refine ⟨?_, by k_mem⟩; first | assumption | exact IsWord.mono (by assumption) (by (first | exact fun _ h => h | (intro p hp; k_ownIn) | (intro p hp; exact List.mem_append.mpr (.inl hp)) | (intro p hp; exact List.mem_cons_of_mem _ (List.mem_append.mpr (.inl hp))) | (intro p hp; simp only [List.mem_append, List.mem_cons] at *; simp [hp]))))) | (first | exact trivial | assumption | exact Ws.mono (by assumption) (by (first | exact fun _ h => h | (intro p hp; k_ownIn) | (intro p hp; exact List.mem_append.mpr (.inl hp)) | (intro p hp; exact List.mem_cons_of_mem _ (List.mem_append.mpr (.inl hp))) | (intro p hp; simp only [List.mem_append, List.mem_cons] at *; simp [hp])))))); (case kd | ku => (((try dsimp only [ktrTop, Around.deeper, Around.in1] at *); (first | lia | omega)))); k_whole; intro mq_tp mq_hp mq_tkp mq_Fp mq_Np; (try dsimp only); (try k_sweep); (try k_fold)))))))) | ((with_reducible show wpAny _ _ (newTuple _) _ _ _); ((k_here; k_dflt (refine' kup_newTuple ?hqF ?hqN ?_ ?hqz; (case hqF | hqN => k_asm); (case hqz => kmk_size)); intro _ _ _ _ hq_l1; (try k_lt hq_l1); (try k_sweep)))) | ((k_here; (with_reducible show wpAny _ _ (call (Value.type _) [Value.ref _]) _ _ _); k_dflt (refine' kde_tupleOf ?hqk1 ?hqk2 ?hqk3 ?hqk4 ?hqk5 ?_; (case hqk1 | hqk2 => k_asm); (case hqk3 => exact News.isList (by k_asm) (by k_mem)); (case hqk4 => (simp only [List.size_toArray]; (first | lia | omega))); (case hqk5 => exact rfl); k_whole); intro _ _ _ _ hq_l1; (try k_lt hq_l1); (try k_sweep))) | ((with_reducible show wpAny _ _ (call (Value.builtin _) _) _ _ _); (first | ((k_here; (with_reducible show wpAny _ _ (call (Value.builtin "len") [Value.ref _]) _ _ _); k_dflt (refine' len_tupM ?hqk1 ?hqk2 ?hqk3 ?hqk4 ?_; (case hqk1 => k_asm); (case hqk2 => k_mem); (case hqk3 => first | exact IntsAre.length (by assumption) | assumption); (case hqk4 => (first | lia | omega))); k_whole)) | ((k_here; (with_reducible show wpAny _ _ (call (Value.builtin "len") [Value.ref _]) _ _ _); k_dflt (refine' len_listM ?hqk1 ?hqk2 ?hqk3 ?hqk4 ?_; (case hqk1 => k_asm); (case hqk2 => k_mem); (case hqk3 => first | exact IntsAre.length (by assumption) | assumption); (case hqk4 => (first | lia | omega))); k_whole)))))) | ((fail_if_success with_reducible (first | show wpAny _ _ (exec (Stmt.For _ _ _ _ _) _) _ _ _ | show wpAny _ _ (pyIter _) _ _ _ | show wpAny _ _ (exec (Stmt.Assign _ (Expr.ListComp _ _ _ _) _) _) _ _ _ | show wpAny _ _ (eval (Expr.ListComp _ _ _ _) _) _ _ _ | show LCg.CompSrc _ _ _ _ _ _ _ _ _ _ _ _ _ _ | show LCg.CompEnd _ _ _ _ _ _ _ _ _ _ _ _ _ _ | show LCt.CompSrcT _ _ _ _ _ _ _ _ _ _ _ _ _ _ _)); first | walk1 | (dsimp only; walk1)) | (leave1; try dsimp only) | fail))
  rename Fr _ _ _ _ => lF
  rename News _ _ _ _ => lN
  with_unfolding_all refine LCg.CompSrc.range (by rfl) lF lN (by assumption) (by decide) (rangeSize_nat _ _) (by decide) ?_
  intro g1
  refine cr_inv (fun i ys nw' => nw' = _ ∧ IntsAre ys ((List.range i).map fun (k : Nat) => cnt ls (k : Int))) ⟨rfl, .nil⟩ ?_ ?_
  · intro i v I oI C oC D m₂ ys nw' h tk E' hi hv hJ hC hx F1 N1 off ne
    obtain ⟨t, rfl⟩ := hv
    obtain ⟨rfl, hJ⟩ := hJ
    try k_fold
    (repeat' (first | (k_unfold; (try dsimp only)) | (k_end; wrow_close) | ((with_reducible show wpAny _ _ (execs (_ :: _) _) _ _ (Shared.mk _ _ _ (_ + 1) _)); (with_reducible refine toks_cut ?_); intro _) | ((first | ((with_reducible show wpAny _ _ (subscriptTail _ _ (Value.ref _) _) _ _ _); (first | ((k_here; (with_reducible show wpAny _ _ (subscriptTail _ _ (Value.ref _) (Value.int _ _)) _ _ _); k_dflt (refine' item_refM ?hqk1 ?hqk2 ?hqk4 ?hqk5 ?hqk6 ?_; (case hqk1 => k_asm); (case hqk2 => k_mem); (case hqk4 | hqk5 => (first | lia | omega)); (case hqk6 => first | assumption | exact rfl)); k_whole)) | ((k_here; (with_reducible show wpAny _ _ (subscriptTail _ _ (Value.ref _) (Value.int _ _)) _ _ _); k_dflt (refine' dget ?hqk1 ?hqk2 ?hqk3 ?hqk4 ?hqk5 ?_; (case hqk1 => k_asm); (case hqk2 => k_mem); (case hqk3 | hqk4 => assumption); (case hqk5 => first | assumption | (apply_assumption; (first | lia | omega)))); k_whole; intro _)) | ((k_here; (with_reducible show wpAny _ _ (subscriptTail _ _ (Value.ref _) (Value.int _ _)) _ _ _); k_dflt (refine' item_listM ?hqk1 ?hqk2 ?hqk3 ?hqk4 ?hqk5 ?hqk6 ?_; (case hqk1 => k_asm); (case hqk2 => k_mem); (case hqk3 => assumption); (case hqk4 | hqk5 | hqk6 => (first | lia | omega))); k_whole; intro _)) | ((k_here; (with_reducible show wpAny _ _ (subscriptTail _ _ (Value.ref _) (Value.int _ _)) _ _ _); k_dflt (refine' item_tupM ?hqk1 ?hqk2 ?hqk3 ?hqk4 ?hqk5 ?hqk6 ?_; (case hqk1 => k_asm); (case hqk2 => k_mem); (case hqk3 => assumption); (case hqk4 | hqk5 | hqk6 => (first | lia | omega))); k_whole; intro _)))) | ((k_here; (with_reducible show wpAny _ _ (setItem (Value.ref _) (Value.int _ _) (Value.int _ _)) _ _ _); k_dflt (refine' dset ?hqF ?hqN ?hqU ?hqd ?hqz ?_; (case hqF | hqN => k_asm); (case hqU => k_updF); (case hqd => assumption); (case hqz => (first | lia | omega))); intro _ _ _ hq_Np _; (try dsimp only at hq_Np); (try k_sweep))) | ((with_reducible show wpAny _ _ (call (Value.ref _) _) _ _ _); (first | ((k_here; (with_reducible show wpAny _ _ (call (Value.ref 115) _) _ _ _); k_dflt (refine' ct_useI (ipow_ct _ _ _ _ _ _ _ _ ?hqh1 ?hqh2 ?hqh3) ?kB ?kF ?kX ?kN ?kT ?kk ?kP ?kd ?ku ?_; (case hqh1 => first | assumption | (first | lia | omega)); (case hqh2 | hqh3 => (first | lia | omega)); (((case kB | kF | kX | kN | kT => k_asm); (case kk => first | exact rfl | assumption); (case kP => exact trivial); (case kd | ku => (((try dsimp only [ktrTop, Around.deeper, Around.in1] at *); (first | lia | omega)))); k_whole; intro mq_tp mq_hp mq_tkp mq_Fp mq_Np; (try dsimp only); (try k_sweep); (try k_fold)))))) | ((k_here; (with_reducible show wpAny _ _ (call (Value.ref 94) _) _ _ _); k_dflt (refine' ct_useI (mod_ct _ _ _ _ _ _ _ _ ?hqhm) ?kB ?kF ?kX ?kN ?kT ?kk ?kP ?kd ?ku ?_; (case hqhm => first | assumption | (first | lia | omega)); (((case kB | kF | kX | kN | kT => k_asm); (case kk => first | exact rfl | assumption); (case kP => exact trivial); (case kd | ku => (((try dsimp only [ktrTop, Around.deeper, Around.in1] at *); (first | lia | omega)))); k_whole; intro mq_tp mq_hp mq_tkp mq_Fp mq_Np; (try dsimp only); (try k_sweep); (try k_fold)))))) | ((k_here; (with_reducible show wpAny _ _ (call (Value.ref 101) _) _ _ _); k_dflt (refine' ct_useI (mul_ct _ _ _ _ _ _ _ _ ?hqhm) ?kB ?kF ?kX ?kN ?kT ?kk ?kP ?kd ?ku ?_; (case hqhm => first | assumption | (apply_assumption; (first | lia | omega))); (((case kB | kF | kX | kN | kT => k_asm); (case kk => first | exact rfl | assumption); (case kP => exact trivial); (case kd | ku => (((try dsimp only [ktrTop, Around.deeper, Around.in1] at *); (first | lia | omega)))); k_whole; intro mq_tp mq_hp mq_tkp mq_Fp mq_Np; (try dsimp only); (try k_sweep); (try k_fold)))))) | ((k_here; (with_reducible show wpAny _ _ (call (Value.ref 87) _) _ _ _); k_dflt (refine' ct_useI (add_ct _ _ _ _ _ _ _ _) ?kB ?kF ?kX ?kN ?kT ?kk ?kP ?kd ?ku ?_; (((case kB | kF | kX | kN | kT => k_asm); (case kk => first | exact rfl | assumption); (case kP => exact trivial); (case kd | ku => (((try dsimp only [ktrTop, Around.deeper, Around.in1] at *); (first | lia | omega)))); k_whole; intro mq_tp mq_hp mq_tkp mq_Fp mq_Np; (try dsimp only); (try k_sweep); (try k_fold)))))) | ((k_here; (with_reducible show wpAny _ _ (call (Value.ref 108) _) _ _ _); k_dflt (refine' ct_useI (countOf_ct _ _ _ _ _ _ _ _ _ _) ?kB ?kF ?kX ?kN ?kT ?kk ?kP ?kd ?ku ?_; (((case kB | kF | kX | kN | kT => k_asm); (case kk => first | exact rfl | assumption); (case kP => (first | ((refine ⟨?_, by k_mem⟩; first | assumption | exact IsWord.mono (by assumption) (by (first | exact fun _ h => h | (intro p hp; k_ownIn) | (intro p hp; exact List.mem_append.mpr (.inl hp)) | (intro p hp; exact List.mem_cons_of_mem _ (List.mem_append.mpr (.inl hp))) | (intro p hp; simp only [List.mem_append, List.mem_cons] at *; simp [hp]))))) | (first | exact trivial | assumption | exact Ws.mono (by assumption) (by (first | exact fun _ h => h | (intro p hp; k_ownIn) | (intro p hp; exact List.mem_append.mpr (.inl hp)) | (intro p hp; exact List.mem_cons_of_mem _ (List.mem_append.mpr (.inl hp))) | (intro p hp; simp only [List.mem_append, List.mem_cons] at *; simp [hp])))))); (case kd | ku => (((try dsimp only [ktrTop, Around.deeper, Around.in1] at *); (first | lia | omega)))); k_whole; intro mq_tp mq_hp mq_tkp mq_Fp mq_Np; (try dsimp only); (try k_sweep); (try k_fold)))))))) | ((with_reducible show wpAny _ _ (newTuple _) _ _ _); ((k_here; k_dflt (refine' kup_newTuple ?hqF ?hqN ?_ ?hqz; (case hqF | hqN => k_asm); (case hqz => kmk_size)); intro _ _ _ _ hq_l1; (try k_lt hq_l1); (try k_sweep)))) | ((k_here; (with_reducible show wpAny _ _ (call (Value.type _) [Value.ref _]) _ _ _); k_dflt (refine' kde_tupleOf ?hqk1 ?hqk2 ?hqk3 ?hqk4 ?hqk5 ?_; (case hqk1 | hqk2 => k_asm); (case hqk3 => exact News.isList (by k_asm) (by k_mem)); (case hqk4 => (simp only [List.size_toArray]; (first | lia | omega))); (case hqk5 => exact rfl); k_whole); intro _ _ _ _ hq_l1; (try k_lt hq_l1); (try k_sweep))) | ((with_reducible show wpAny _ _ (call (Value.builtin _) _) _ _ _); (first | ((k_here; (with_reducible show wpAny _ _ (call (Value.builtin "len") [Value.ref _]) _ _ _); k_dflt (refine' len_tupM ?hqk1 ?hqk2 ?hqk3 ?hqk4 ?_; (case hqk1 => k_asm); (case hqk2 => k_mem); (case hqk3 => first | exact IntsAre.length (by assumption) | assumption); (case hqk4 => (first | lia | omega))); k_whole)) | ((k_here; (with_reducible show wpAny _ _ (call (Value.builtin "len") [Value.ref _]) _ _ _); k_dflt (refine' len_listM ?hqk1 ?hqk2 ?hqk3 ?hqk4 ?_; (case hqk1 => k_asm); (case hqk2 => k_mem); (case hqk3 => first | exact IntsAre.length (by assumption) | assumption); (case hqk4 => (first | lia | omega))); k_whole)))))) | ((fail_if_success with_reducible (first | show wpAny _ _ (exec (Stmt.For _ _ _ _ _) _) _ _ _ | show wpAny _ _ (pyIter _) _ _ _ | show wpAny _ _ (exec (Stmt.Assign _ (Expr.ListComp _ _ _ _) _) _) _ _ _ | show wpAny _ _ (eval (Expr.ListComp _ _ _ _) _) _ _ _ | show LCg.CompSrc _ _ _ _ _ _ _ _ _ _ _ _ _ _ | show LCg.CompEnd _ _ _ _ _ _ _ _ _ _ _ _ _ _ | show LCt.CompSrcT _ _ _ _ _ _ _ _ _ _ _ _ _ _ _)); first | walk1 | (dsimp only; walk1)) | (leave1; try dsimp only) | fail))
    refine LCg.CompEnd.intro (by k_asm) (by k_asm) _ (fun p hp => List.mem_cons_of_mem _ hp) off trivial ⟨rfl, ?_⟩
    rw [List.range_succ, List.map_append]
    have e : (0 + (i : Int)) = (i : Int) := by (first | lia | omega)
    rw [e]
    exact IntsAre.append hJ (.cons _ _ .nil)
  · intro ys nw' hJ
    obtain ⟨rfl, hJ⟩ := hJ
    have e3 : (List.range (3 - 0 : Int).toNat).map (fun (k : Nat) => cnt ls (k : Int)) = [cnt ls 0, cnt ls 1, cnt ls 2] := rfl
    rw [e3, hc0, hc1, hc2] at hJ
    obtain ⟨t0, t1, t2, rfl⟩ := ints3 hJ
    unfold LCg.FinA
    intro D h tk F1 N1 o1'
    try k_fold
    (repeat' (first | (k_unfold; (try dsimp only)) | (k_end; wrow_close) | ((with_reducible show wpAny _ _ (execs (_ :: _) _) _ _ (Shared.mk _ _ _ (_ + 1) _)); (with_reducible refine toks_cut ?_); intro _) | ((first | ((with_reducible show wpAny _ _ (subscriptTail _ _ (Value.ref _) _) _ _ _); (first | ((k_here; (with_reducible show wpAny _ _ (subscriptTail _ _ (Value.ref _) (Value.int _ _)) _ _ _); k_dflt (refine' item_refM ?hqk1 ?hqk2 ?hqk4 ?hqk5 ?hqk6 ?_; (case hqk1 => k_asm); (case hqk2 => k_mem); (case hqk4 | hqk5 => (first | lia | omega)); (case hqk6 => first | assumption | exact rfl)); k_whole)) | ((k_here; (with_reducible show wpAny _ _ (subscriptTail _ _ (Value.ref _) (Value.int _ _)) _ _ _); k_dflt (refine' dget ?hqk1 ?hqk2 ?hqk3 ?hqk4 ?hqk5 ?_; (case hqk1 => k_asm); (case hqk2 => k_mem); (case hqk3 | hqk4 => assumption); (case hqk5 => first | assumption | (apply_assumption; (first | lia | omega)))); k_whole; intro _)) | ((k_here; (with_reducible show wpAny _ _ (subscriptTail _ _ (Value.ref _) (Value.int _ _)) _ _ _); k_dflt (refine' item_listM ?hqk1 ?hqk2 ?hqk3 ?hqk4 ?hqk5 ?hqk6 ?_; (case hqk1 => k_asm); (case hqk2 => k_mem); (case hqk3 => assumption); (case hqk4 | hqk5 | hqk6 => (first | lia | omega))); k_whole; intro _)) | ((k_here; (with_reducible show wpAny _ _ (subscriptTail _ _ (Value.ref _) (Value.int _ _)) _ _ _); k_dflt (refine' item_tupM ?hqk1 ?hqk2 ?hqk3 ?hqk4 ?hqk5 ?hqk6 ?_; (case hqk1 => k_asm); (case hqk2 => k_mem); (case hqk3 => assumption); (case hqk4 | hqk5 | hqk6 => (first | lia | omega))); k_whole; intro _)))) | ((k_here; (with_reducible show wpAny _ _ (setItem (Value.ref _) (Value.int _ _) (Value.int _ _)) _ _ _); k_dflt (refine' dset ?hqF ?hqN ?hqU ?hqd ?hqz ?_; (case hqF | hqN => k_asm); (case hqU => k_updF); (case hqd => assumption); (case hqz => (first | lia | omega))); intro _ _ _ hq_Np _; (try dsimp only at hq_Np); (try k_sweep))) | ((with_reducible show wpAny _ _ (call (Value.ref _) _) _ _ _); (first | ((k_here; (with_reducible show wpAny _ _ (call (Value.ref 115) _) _ _ _); k_dflt (refine' ct_useI (ipow_ct _ _ _ _ _ _ _ _ ?hqh1 ?hqh2 ?hqh3) ?kB ?kF ?kX ?kN ?kT ?kk ?kP ?kd ?ku ?_; (case hqh1 => first | assumption | (first | lia | omega)); (case hqh2 | hqh3 => (first | lia | omega)); (((case kB | kF | kX | kN | kT => k_asm); (case kk => first | exact rfl | assumption); (case kP => exact trivial); (case kd | ku => (((try dsimp only [ktrTop, Around.deeper, Around.in1] at *); (first | lia | omega)))); k_whole; intro mq_tp mq_hp mq_tkp mq_Fp mq_Np; (try dsimp only); (try k_sweep); (try k_fold)))))) | ((k_here; (with_reducible show wpAny _ _ (call (Value.ref 94) _) _ _ _); k_dflt (refine' ct_useI (mod_ct _ _ _ _ _ _ _ _ ?hqhm) ?kB ?kF ?kX ?kN ?kT ?kk ?kP ?kd ?ku ?_; (case hqhm => first | assumption | (first | lia | omega)); (((case kB | kF | kX | kN | kT => k_asm); (case kk => first | exact rfl | assumption); (case kP => exact trivial); (case kd | ku => (((try dsimp only [ktrTop, Around.deeper, Around.in1] at *); (first | lia | omega)))); k_whole; intro mq_tp mq_hp mq_tkp mq_Fp mq_Np; (try dsimp only); (try k_sweep); (try k_fold)))))) | ((k_here; (with_reducible show wpAny _ _ (call (Value.ref 101) _) _ _ _); k_dflt (refine' ct_useI (mul_ct _ _ _ _ _ _ _ _ ?hqhm) ?kB ?kF ?kX ?kN ?kT ?kk ?kP ?kd ?ku ?_; (case hqhm => first | assumption | (apply_assumption; (first | lia | omega))); (((case kB | kF | kX | kN | kT => k_asm); (case kk => first | exact rfl | assumption); (case kP => exact trivial); (case kd | ku => (((try dsimp only [ktrTop, Around.deeper, Around.in1] at *); (first | lia | omega)))); k_whole; intro mq_tp mq_hp mq_tkp mq_Fp mq_Np; (try dsimp only); (try k_sweep); (try k_fold)))))) | ((k_here; (with_reducible show wpAny _ _ (call (Value.ref 87) _) _ _ _); k_dflt (refine' ct_useI (add_ct _ _ _ _ _ _ _ _) ?kB ?kF ?kX ?kN ?kT ?kk ?kP ?kd ?ku ?_; (((case kB | kF | kX | kN | kT => k_asm); (case kk => first | exact rfl | assumption); (case kP => exact trivial); (case kd | ku => (((try dsimp only [ktrTop, Around.deeper, Around.in1] at *); (first | lia | omega)))); k_whole; intro mq_tp mq_hp mq_tkp mq_Fp mq_Np; (try dsimp only); (try k_sweep); (try k_fold)))))) | ((k_here; (with_reducible show wpAny _ _ (call (Value.ref 108) _) _ _ _); k_dflt (refine' ct_useI (countOf_ct _ _ _ _ _ _ _ _ _ _) ?kB ?kF ?kX ?kN ?kT ?kk ?kP ?kd ?ku ?_; (((case kB | kF | kX | kN | kT => k_asm); (case kk => first | exact rfl | assumption); (case kP => (first | ((refine ⟨?_, by k_mem⟩; first | assumption | exact IsWord.mono (by assumption) (by (first | exact fun _ h => h | (intro p hp; k_ownIn) | (intro p hp; exact List.mem_append.mpr (.inl hp)) | (intro p hp; exact List.mem_cons_of_mem _ (List.mem_append.mpr (.inl hp))) | (intro p hp; simp only [List.mem_append, List.mem_cons] at *; simp [hp]))))) | (first | exact trivial | assumption | exact Ws.mono (by assumption) (by (first | exact fun _ h => h | (intro p hp; k_ownIn) | (intro p hp; exact List.mem_append.mpr (.inl hp)) | (intro p hp; exact List.mem_cons_of_mem _ (List.mem_append.mpr (.inl hp))) | (intro p hp; simp only [List.mem_append, List.mem_cons] at *; simp [hp])))))); (case kd | ku => (((try dsimp only [ktrTop, Around.deeper, Around.in1] at *); (first | lia | omega)))); k_whole; intro mq_tp mq_hp mq_tkp mq_Fp mq_Np; (try dsimp only); (try k_sweep); (try k_fold)))))))) | ((with_reducible show wpAny _ _ (newTuple _) _ _ _); ((k_here; k_dflt (refine' kup_newTuple ?hqF ?hqN ?_ ?hqz; (case hqF | hqN => k_asm); (case hqz => kmk_size)); intro _ _ _ _ hq_l1; (try k_lt hq_l1); (try k_sweep)))) | ((k_here; (with_reducible show wpAny _ _ (call (Value.type _) [Value.ref _]) _ _ _); k_dflt (refine' kde_tupleOf ?hqk1 ?hqk2 ?hqk3 ?hqk4 ?hqk5 ?_; (case hqk1 | hqk2 => k_asm); (case hqk3 => exact News.isList (by k_asm) (by k_mem)); (case hqk4 => (simp only [List.size_toArray]; (first | lia | omega))); (case hqk5 => exact rfl); k_whole); intro _ _ _ _ hq_l1; (try k_lt hq_l1); (try k_sweep))) | ((with_reducible show wpAny _ _ (call (Value.builtin _) _) _ _ _); (first | ((k_here; (with_reducible show wpAny _ _ (call (Value.builtin "len") [Value.ref _]) _ _ _); k_dflt (refine' len_tupM ?hqk1 ?hqk2 ?hqk3 ?hqk4 ?_; (case hqk1 => k_asm); (case hqk2 => k_mem); (case hqk3 => first | exact IntsAre.length (by assumption) | assumption); (case hqk4 => (first | lia | omega))); k_whole)) | ((k_here; (with_reducible show wpAny _ _ (call (Value.builtin "len") [Value.ref _]) _ _ _); k_dflt (refine' len_listM ?hqk1 ?hqk2 ?hqk3 ?hqk4 ?_; (case hqk1 => k_asm); (case hqk2 => k_mem); (case hqk3 => first | exact IntsAre.length (by assumption) | assumption); (case hqk4 => (first | lia | omega))); k_whole)))))) | ((fail_if_success with_reducible (first | show wpAny _ _ (exec (Stmt.For _ _ _ _ _) _) _ _ _ | show wpAny _ _ (pyIter _) _ _ _ | show wpAny _ _ (exec (Stmt.Assign _ (Expr.ListComp _ _ _ _) _) _) _ _ _ | show wpAny _ _ (eval (Expr.ListComp _ _ _ _) _) _ _ _ | show LCg.CompSrc _ _ _ _ _ _ _ _ _ _ _ _ _ _ | show LCg.CompEnd _ _ _ _ _ _ _ _ _ _ _ _ _ _ | show LCt.CompSrcT _ _ _ _ _ _ _ _ _ _ _ _ _ _ _)); first | walk1 | (dsimp only; walk1)) | (leave1; try dsimp only) | fail))
    rename (Obj.IsDictOf (intKind _ _) _ _) => hi1
    rename (PyProof.V.FlatPairs PyData.int _ _) => hf1
    rename (D < _ ∧ Lc + 1 < _ ∧ AllLt _ news) => hld
    obtain ⟨td, etd⟩ := pickTd hld
    subst etd
    obtain ⟨o0, eo0⟩ := pickDo hi1
    subst eo0
    have hD0 : DictIs w o0 [] := ⟨[], hi1, hf1⟩
    clear hi1 hf1
    rename News _ _ _ _ => lN
    obtain ⟨R, eR⟩ : ∃ R : Led, R = (D, LCg.lst [Value.int (↑c0) t0, Value.int (↑c1) t1, Value.int (↑c2) t2]) :: (Lc + 1, o1) :: news := ⟨_, rfl⟩
    rw [← eR] at lN
    have hcm : (D, listOf [Value.int (↑c0) t0, Value.int (↑c1) t1, Value.int (↑c2) t2].toArray 3) ∈ R := by rw [eR]; exact .head _
    have hRn : ∀ p ∈ news, p ∈ R := fun p hp => by rw [eR]; exact .tail _ (.tail _ hp)
    have hneR : ∀ p ∈ R, p.1 ≠ td := fun p hp => by
      rw [eR] at hp
      rcases List.mem_cons.mp hp with rfl | hp
      · exact Nat.ne_of_lt hld.1
      · rcases List.mem_cons.mp hp with rfl | hp
        · exact Nat.ne_of_lt hld.2.1
        · exact Nat.ne_of_lt (ktn_ltOf hld.2.2 p hp)
    clear eR
    rename Fr _ _ _ _ => lF
    with_unfolding_all refine' For_invVF lF (by exact rfl) (by exact rfl) ?_
    (repeat' (first | (k_unfold; (try dsimp only)) | (k_end; wrow_close) | ((with_reducible show wpAny _ _ (execs (_ :: _) _) _ _ (Shared.mk _ _ _ (_ + 1) _)); (with_reducible refine toks_cut ?_); intro _) | ((first | ((with_reducible show wpAny _ _ (subscriptTail _ _ (Value.ref _) _) _ _ _); (first | ((k_here; (with_reducible show wpAny _ _ (subscriptTail _ _ (Value.ref _) (Value.int _ _)) _ _ _); k_dflt (refine' item_refM ?hqk1 ?hqk2 ?hqk4 ?hqk5 ?hqk6 ?_; (case hqk1 => k_asm); (case hqk2 => k_mem); (case hqk4 | hqk5 => (first | lia | omega)); (case hqk6 => first | assumption | exact rfl)); k_whole)) | ((k_here; (with_reducible show wpAny _ _ (subscriptTail _ _ (Value.ref _) (Value.int _ _)) _ _ _); k_dflt (refine' dget ?hqk1 ?hqk2 ?hqk3 ?hqk4 ?hqk5 ?_; (case hqk1 => k_asm); (case hqk2 => k_mem); (case hqk3 | hqk4 => assumption); (case hqk5 => first | assumption | (apply_assumption; (first | lia | omega)))); k_whole; intro _)) | ((k_here; (with_reducible show wpAny _ _ (subscriptTail _ _ (Value.ref _) (Value.int _ _)) _ _ _); k_dflt (refine' item_listM ?hqk1 ?hqk2 ?hqk3 ?hqk4 ?hqk5 ?hqk6 ?_; (case hqk1 => k_asm); (case hqk2 => k_mem); (case hqk3 => assumption); (case hqk4 | hqk5 | hqk6 => (first | lia | omega))); k_whole; intro _)) | ((k_here; (with_reducible show wpAny _ _ (subscriptTail _ _ (Value.ref _) (Value.int _ _)) _ _ _); k_dflt (refine' item_tupM ?hqk1 ?hqk2 ?hqk3 ?hqk4 ?hqk5 ?hqk6 ?_; (case hqk1 => k_asm); (case hqk2 => k_mem); (case hqk3 => assumption); (case hqk4 | hqk5 | hqk6 => (first | lia | omega))); k_whole; intro _)))) | ((k_here; (with_reducible show wpAny _ _ (setItem (Value.ref _) (Value.int _ _) (Value.int _ _)) _ _ _); k_dflt (refine' dset ?hqF ?hqN ?hqU ?hqd ?hqz ?_; (case hqF | hqN => k_asm); (case hqU => k_updF); (case hqd => assumption); (case hqz => (first | lia | omega))); intro _ _ _ hq_Np _; (try dsimp only at hq_Np); (try k_sweep))) | ((with_reducible show wpAny _ _ (call (Value.ref _) _) _ _ _); (first | ((k_here; (with_reducible show wpAny _ _ (call (Value.ref 115) _) _ _ _); k_dflt (refine' ct_useI (ipow_ct _ _ _ _ _ _ _ _ ?hqh1 ?hqh2 ?hqh3) ?kB ?kF ?kX ?kN ?kT ?kk ?kP ?kd ?ku ?_; (case hqh1 => first | assumption | (first | lia | omega)); (case hqh2 | hqh3 => (first | lia | omega)); (((case kB | kF | kX | kN | kT => k_asm); (case kk => first | exact rfl | assumption); (case kP => exact trivial); (case kd | ku => (((try dsimp only [ktrTop, Around.deeper, Around.in1] at *); (first | lia | omega)))); k_whole; intro mq_tp mq_hp mq_tkp mq_Fp mq_Np; (try dsimp only); (try k_sweep); (try k_fold)))))) | ((k_here; (with_reducible show wpAny _ _ (call (Value.ref 94) _) _ _ _); k_dflt (refine' ct_useI (mod_ct _ _ _ _ _ _ _ _ ?hqhm) ?kB ?kF ?kX ?kN ?kT ?kk ?kP ?kd ?ku ?_; (case hqhm => first | assumption | (first | lia | omega)); (((case kB | kF | kX | kN | kT => k_asm); (case kk => first | exact rfl | assumption); (case kP => exact trivial); (case kd | ku => (((try dsimp only [ktrTop, Around.deeper, Around.in1] at *); (first | lia | omega)))); k_whole; intro mq_tp mq_hp mq_tkp mq_Fp mq_Np; (try dsimp only); (try k_sweep); (try k_fold)))))) | ((k_here; (with_reducible show wpAny _ _ (call (Value.ref 101) _) _ _ _); k_dflt (refine' ct_useI (mul_ct _ _ _ _ _ _ _ _ ?hqhm) ?kB ?kF ?kX ?kN ?kT ?kk ?kP ?kd ?ku ?_; (case hqhm => first | assumption | (apply_assumption; (first | lia | omega))); (((case kB | kF | kX | kN | kT => k_asm); (case kk => first | exact rfl | assumption); (case kP => exact trivial); (case kd | ku => (((try dsimp only [ktrTop, Around.deeper, Around.in1] at *); (first | lia | omega)))); k_whole; intro mq_tp mq_hp mq_tkp mq_Fp mq_Np; (try dsimp only); (try k_sweep); (try k_fold)))))) | ((k_here; (with_reducible show wpAny _ _ (call (Value.ref 87) _) _ _ _); k_dflt (refine' ct_useI (add_ct _ _ _ _ _ _ _ _) ?kB ?kF ?kX ?kN ?kT ?kk ?kP ?kd ?ku ?_; (((case kB | kF | kX | kN | kT => k_asm); (case kk => first | exact rfl | assumption); (case kP => exact trivial); (case kd | ku => (((try dsimp only [ktrTop, Around.deeper, Around.in1] at *); (first | lia | omega)))); k_whole; intro mq_tp mq_hp mq_tkp mq_Fp mq_Np; (try dsimp only); (try k_sweep); (try k_fold)))))) | ((k_here; (with_reducible show wpAny _ _ (call (Value.ref 108) _) _ _ _); k_dflt (refine' ct_useI (countOf_ct _ _ _ _ _ _ _ _ _ _) ?kB ?kF ?kX ?kN ?kT ?kk ?kP ?kd ?ku ?_; (((case kB | kF | kX | kN | kT => k_asm); (case kk => first | exact rfl | assumption); (case kP => (first | ((refine ⟨?_, by k_mem⟩; first | assumption | exact IsWord.mono (by assumption) (by (first | exact fun _ h => h | (intro p hp; k_ownIn) | (intro p hp; exact List.mem_append.mpr (.inl hp)) | (intro p hp; exact List.mem_cons_of_mem _ (List.mem_append.mpr (.inl hp))) | (intro p hp; simp only [List.mem_append, List.mem_cons] at *; simp [hp]))))) | (first | exact trivial | assumption | exact Ws.mono (by assumption) (by (first | exact fun _ h => h | (intro p hp; k_ownIn) | (intro p hp; exact List.mem_append.mpr (.inl hp)) | (intro p hp; exact List.mem_cons_of_mem _ (List.mem_append.mpr (.inl hp))) | (intro p hp; simp only [List.mem_append, List.mem_cons] at *; simp [hp])))))); (case kd | ku => (((try dsimp only [ktrTop, Around.deeper, Around.in1] at *); (first | lia | omega)))); k_whole; intro mq_tp mq_hp mq_tkp mq_Fp mq_Np; (try dsimp only); (try k_sweep); (try k_fold)))))))) | ((with_reducible show wpAny _ _ (newTuple _) _ _ _); ((k_here; k_dflt (refine' kup_newTuple ?hqF ?hqN ?_ ?hqz; (case hqF | hqN => k_asm); (case hqz => kmk_size)); intro _ _ _ _ hq_l1; (try k_lt hq_l1); (try k_sweep)))) | ((k_here; (with_reducible show wpAny _ _ (call (Value.type _) [Value.ref _]) _ _ _); k_dflt (refine' kde_tupleOf ?hqk1 ?hqk2 ?hqk3 ?hqk4 ?hqk5 ?_; (case hqk1 | hqk2 => k_asm); (case hqk3 => exact News.isList (by k_asm) (by k_mem)); (case hqk4 => (simp only [List.size_toArray]; (first | lia | omega))); (case hqk5 => exact rfl); k_whole); intro _ _ _ _ hq_l1; (try k_lt hq_l1); (try k_sweep))) | ((with_reducible show wpAny _ _ (call (Value.builtin _) _) _ _ _); (first | ((k_here; (with_reducible show wpAny _ _ (call (Value.builtin "len") [Value.ref _]) _ _ _); k_dflt (refine' len_tupM ?hqk1 ?hqk2 ?hqk3 ?hqk4 ?_; (case hqk1 => k_asm); (case hqk2 => k_mem); (case hqk3 => first | exact IntsAre.length (by assumption) | assumption); (case hqk4 => (first | lia | omega))); k_whole)) | ((k_here; (with_reducible show wpAny _ _ (call (Value.builtin "len") [Value.ref _]) _ _ _); k_dflt (refine' len_listM ?hqk1 ?hqk2 ?hqk3 ?hqk4 ?_; (case hqk1 => k_asm); (case hqk2 => k_mem); (case hqk3 => first | exact IntsAre.length (by assumption) | assumption); (case hqk4 => (first | lia | omega))); k_whole)))))) | ((fail_if_success with_reducible (first | show wpAny _ _ (exec (Stmt.For _ _ _ _ _) _) _ _ _ | show wpAny _ _ (pyIter _) _ _ _ | show wpAny _ _ (exec (Stmt.Assign _ (Expr.ListComp _ _ _ _) _) _) _ _ _ | show wpAny _ _ (eval (Expr.ListComp _ _ _ _) _) _ _ _ | show LCg.CompSrc _ _ _ _ _ _ _ _ _ _ _ _ _ _ | show LCg.CompEnd _ _ _ _ _ _ _ _ _ _ _ _ _ _ | show LCt.CompSrcT _ _ _ _ _ _ _ _ _ _ _ _ _ _ _)); first | walk1 | (dsimp only; walk1)) | (leave1; try dsimp only) | fail))
    rename Fr _ _ _ _ => lF
    rename News _ _ _ _ => lN
    rename IsRange _ _ _ _ _ _ _ _ => hR
    with_unfolding_all refine lp_range (σ := WoSt) (n := c0 + 1) (fun c => (td, c.o) :: R) (fun c => plP c.pl) [Str.ofString "place", Str.ofString "worth", Str.ofString "j", Str.ofString "k"] (fun i c => DictIs w c.o c.D ∧ Fil q c1 c2 i 0 0 c.D ∧ c.D.length ≤ 100 * i ∧ (0 < i → ∃ t, c.pl = some (plv (i - 1) c1 c2, t))) ⟨o0, [], none⟩ (by exact rfl) hR (small_of (by (first | lia | omega)) (by (first | lia | omega)) (by (first | lia | omega)) (by (first | lia | omega))) (by rw [rangeSize_nat]; (first | lia | omega)) lF lN (List.forall_mem_nil _) ⟨hD0, fun a b c _ _ h => absurd h (by (first | lia | omega)), Nat.le_refl _, fun h => absurd h (by (first | lia | omega))⟩ ?_ ?_
    · intro ci i ti ui hi' tki own1 hi hoff1 hPi Fi Ni
      have hDi := hPi.1
      have hFi := hPi.2.1
      have hLi := hPi.2.2.1
      replace Fi := forgetP (by decide +kernel) Fi
      obtain ⟨ui2, Fi⟩ := Fi
      simp only [List.cons_append] at Ni
      have hne1 : ∀ p ∈ R ++ own1, p.1 ≠ td := ne_app hneR (fun p hp => hoff1 p hp td (by simp))
      try k_fold
      (repeat' (first | (k_unfold; (try dsimp only)) | (k_end; wrow_close) | ((with_reducible show wpAny _ _ (execs (_ :: _) _) _ _ (Shared.mk _ _ _ (_ + 1) _)); (with_reducible refine toks_cut ?_); intro _) | ((first | ((with_reducible show wpAny _ _ (subscriptTail _ _ (Value.ref _) _) _ _ _); (first | ((k_here; (with_reducible show wpAny _ _ (subscriptTail _ _ (Value.ref _) (Value.int _ _)) _ _ _); k_dflt (refine' item_refM ?hqk1 ?hqk2 ?hqk4 ?hqk5 ?hqk6 ?_; (case hqk1 => k_asm); (case hqk2 => k_mem); (case hqk4 | hqk5 => (first | lia | omega)); (case hqk6 => first | assumption | exact rfl)); k_whole)) | ((k_here; (with_reducible show wpAny _ _ (subscriptTail _ _ (Value.ref _) (Value.int _ _)) _ _ _); k_dflt (refine' dget ?hqk1 ?hqk2 ?hqk3 ?hqk4 ?hqk5 ?_; (case hqk1 => k_asm); (case hqk2 => k_mem); (case hqk3 | hqk4 => assumption); (case hqk5 => first | assumption | (apply_assumption; (first | lia | omega)))); k_whole; intro _)) | ((k_here; (with_reducible show wpAny _ _ (subscriptTail _ _ (Value.ref _) (Value.int _ _)) _ _ _); k_dflt (refine' item_listM ?hqk1 ?hqk2 ?hqk3 ?hqk4 ?hqk5 ?hqk6 ?_; (case hqk1 => k_asm); (case hqk2 => k_mem); (case hqk3 => assumption); (case hqk4 | hqk5 | hqk6 => (first | lia | omega))); k_whole; intro _)) | ((k_here; (with_reducible show wpAny _ _ (subscriptTail _ _ (Value.ref _) (Value.int _ _)) _ _ _); k_dflt (refine' item_tupM ?hqk1 ?hqk2 ?hqk3 ?hqk4 ?hqk5 ?hqk6 ?_; (case hqk1 => k_asm); (case hqk2 => k_mem); (case hqk3 => assumption); (case hqk4 | hqk5 | hqk6 => (first | lia | omega))); k_whole; intro _)))) | ((k_here; (with_reducible show wpAny _ _ (setItem (Value.ref _) (Value.int _ _) (Value.int _ _)) _ _ _); k_dflt (refine' dset ?hqF ?hqN ?hqU ?hqd ?hqz ?_; (case hqF | hqN => k_asm); (case hqU => k_updF); (case hqd => assumption); (case hqz => (first | lia | omega))); intro _ _ _ hq_Np _; (try dsimp only at hq_Np); (try k_sweep))) | ((with_reducible show wpAny _ _ (call (Value.ref _) _) _ _ _); (first | ((k_here; (with_reducible show wpAny _ _ (call (Value.ref 115) _) _ _ _); k_dflt (refine' ct_useI (ipow_ct _ _ _ _ _ _ _ _ ?hqh1 ?hqh2 ?hqh3) ?kB ?kF ?kX ?kN ?kT ?kk ?kP ?kd ?ku ?_; (case hqh1 => first | assumption | (first | lia | omega)); (case hqh2 | hqh3 => (first | lia | omega)); (((case kB | kF | kX | kN | kT => k_asm); (case kk => first | exact rfl | assumption); (case kP => exact trivial); (case kd | ku => (((try dsimp only [ktrTop, Around.deeper, Around.in1] at *); (first | lia | omega)))); k_whole; intro mq_tp mq_hp mq_tkp mq_Fp mq_Np; (try dsimp only); (try k_sweep); (try k_fold)))))) | ((k_here; (with_reducible show wpAny _ _ (call (Value.ref 94) _) _ _ _); k_dflt (refine' ct_useI (mod_ct _ _ _ _ _ _ _ _ ?hqhm) ?kB ?kF ?kX ?kN ?kT ?kk ?kP ?kd ?ku ?_; (case hqhm => first | assumption | (first | lia | omega)); (((case kB | kF | kX | kN | kT => k_asm); (case kk => first | exact rfl | assumption); (case kP => exact trivial); (case kd | ku => (((try dsimp only [ktrTop, Around.deeper, Around.in1] at *); (first | lia | omega)))); k_whole; intro mq_tp mq_hp mq_tkp mq_Fp mq_Np; (try dsimp only); (try k_sweep); (try k_fold)))))) | ((k_here; (with_reducible show wpAny _ _ (call (Value.ref 101) _) _ _ _); k_dflt (refine' ct_useI (mul_ct _ _ _ _ _ _ _ _ ?hqhm) ?kB ?kF ?kX ?kN ?kT ?kk ?kP ?kd ?ku ?_; (case hqhm => first | assumption | (apply_assumption; (first | lia | omega))); (((case kB | kF | kX | kN | kT => k_asm); (case kk => first | exact rfl | assumption); (case kP => exact trivial); (case kd | ku => (((try dsimp only [ktrTop, Around.deeper, Around.in1] at *); (first | lia | omega)))); k_whole; intro mq_tp mq_hp mq_tkp mq_Fp mq_Np; (try dsimp only); (try k_sweep); (try k_fold)))))) | ((k_here; (with_reducible show wpAny _ _ (call (Value.ref 87) _) _ _ _); k_dflt (refine' ct_useI (add_ct _ _ _ _ _ _ _ _) ?kB ?kF ?kX ?kN ?kT ?kk ?kP ?kd ?ku ?_; (((case kB | kF | kX | kN | kT => k_asm); (case kk => first | exact rfl | assumption); (case kP => exact trivial); (case kd | ku => (((try dsimp only [ktrTop, Around.deeper, Around.in1] at *); (first | lia | omega)))); k_whole; intro mq_tp mq_hp mq_tkp mq_Fp mq_Np; (try dsimp only); (try k_sweep); (try k_fold)))))) | ((k_here; (with_reducible show wpAny _ _ (call (Value.ref 108) _) _ _ _); k_dflt (refine' ct_useI (countOf_ct _ _ _ _ _ _ _ _ _ _) ?kB ?kF ?kX ?kN ?kT ?kk ?kP ?kd ?ku ?_; (((case kB | kF | kX | kN | kT => k_asm); (case kk => first | exact rfl | assumption); (case kP => (first | ((refine ⟨?_, by k_mem⟩; first | assumption | exact IsWord.mono (by assumption) (by (first | exact fun _ h => h | (intro p hp; k_ownIn) | (intro p hp; exact List.mem_append.mpr (.inl hp)) | (intro p hp; exact List.mem_cons_of_mem _ (List.mem_append.mpr (.inl hp))) | (intro p hp; simp only [List.mem_append, List.mem_cons] at *; simp [hp]))))) | (first | exact trivial | assumption | exact Ws.mono (by assumption) (by (first | exact fun _ h => h | (intro p hp; k_ownIn) | (intro p hp; exact List.mem_append.mpr (.inl hp)) | (intro p hp; exact List.mem_cons_of_mem _ (List.mem_append.mpr (.inl hp))) | (intro p hp; simp only [List.mem_append, List.mem_cons] at *; simp [hp])))))); (case kd | ku => (((try dsimp only [ktrTop, Around.deeper, Around.in1] at *); (first | lia | omega)))); k_whole; intro mq_tp mq_hp mq_tkp mq_Fp mq_Np; (try dsimp only); (try k_sweep); (try k_fold)))))))) | ((with_reducible show wpAny _ _ (newTuple _) _ _ _); ((k_here; k_dflt (refine' kup_newTuple ?hqF ?hqN ?_ ?hqz; (case hqF | hqN => k_asm); (case hqz => kmk_size)); intro _ _ _ _ hq_l1; (try k_lt hq_l1); (try k_sweep)))) | ((k_here; (with_reducible show wpAny _ _ (call (Value.type _) [Value.ref _]) _ _ _); k_dflt (refine' kde_tupleOf ?hqk1 ?hqk2 ?hqk3 ?hqk4 ?hqk5 ?_; (case hqk1 | hqk2 => k_asm); (case hqk3 => exact News.isList (by k_asm) (by k_mem)); (case hqk4 => (simp only [List.size_toArray]; (first | lia | omega))); (case hqk5 => exact rfl); k_whole); intro _ _ _ _ hq_l1; (try k_lt hq_l1); (try k_sweep))) | ((with_reducible show wpAny _ _ (call (Value.builtin _) _) _ _ _); (first | ((k_here; (with_reducible show wpAny _ _ (call (Value.builtin "len") [Value.ref _]) _ _ _); k_dflt (refine' len_tupM ?hqk1 ?hqk2 ?hqk3 ?hqk4 ?_; (case hqk1 => k_asm); (case hqk2 => k_mem); (case hqk3 => first | exact IntsAre.length (by assumption) | assumption); (case hqk4 => (first | lia | omega))); k_whole)) | ((k_here; (with_reducible show wpAny _ _ (call (Value.builtin "len") [Value.ref _]) _ _ _); k_dflt (refine' len_listM ?hqk1 ?hqk2 ?hqk3 ?hqk4 ?_; (case hqk1 => k_asm); (case hqk2 => k_mem); (case hqk3 => first | exact IntsAre.length (by assumption) | assumption); (case hqk4 => (first | lia | omega))); k_whole)))))) | ((fail_if_success with_reducible (first | show wpAny _ _ (exec (Stmt.For _ _ _ _ _) _) _ _ _ | show wpAny _ _ (pyIter _) _ _ _ | show wpAny _ _ (exec (Stmt.Assign _ (Expr.ListComp _ _ _ _) _) _) _ _ _ | show wpAny _ _ (eval (Expr.ListComp _ _ _ _) _) _ _ _ | show LCg.CompSrc _ _ _ _ _ _ _ _ _ _ _ _ _ _ | show LCg.CompEnd _ _ _ _ _ _ _ _ _ _ _ _ _ _ | show LCt.CompSrcT _ _ _ _ _ _ _ _ _ _ _ _ _ _ _)); first | walk1 | (dsimp only; walk1)) | (leave1; try dsimp only) | fail))
      rename Fr _ _ _ _ => lF
      with_unfolding_all refine' For_invVF lF (by exact rfl) (by exact rfl) ?_
      (repeat' (first | (k_unfold; (try dsimp only)) | (k_end; wrow_close) | ((with_reducible show wpAny _ _ (execs (_ :: _) _) _ _ (Shared.mk _ _ _ (_ + 1) _)); (with_reducible refine toks_cut ?_); intro _) | ((first | ((with_reducible show wpAny _ _ (subscriptTail _ _ (Value.ref _) _) _ _ _); (first | ((k_here; (with_reducible show wpAny _ _ (subscriptTail _ _ (Value.ref _) (Value.int _ _)) _ _ _); k_dflt (refine' item_refM ?hqk1 ?hqk2 ?hqk4 ?hqk5 ?hqk6 ?_; (case hqk1 => k_asm); (case hqk2 => k_mem); (case hqk4 | hqk5 => (first | lia | omega)); (case hqk6 => first | assumption | exact rfl)); k_whole)) | ((k_here; (with_reducible show wpAny _ _ (subscriptTail _ _ (Value.ref _) (Value.int _ _)) _ _ _); k_dflt (refine' dget ?hqk1 ?hqk2 ?hqk3 ?hqk4 ?hqk5 ?_; (case hqk1 => k_asm); (case hqk2 => k_mem); (case hqk3 | hqk4 => assumption); (case hqk5 => first | assumption | (apply_assumption; (first | lia | omega)))); k_whole; intro _)) | ((k_here; (with_reducible show wpAny _ _ (subscriptTail _ _ (Value.ref _) (Value.int _ _)) _ _ _); k_dflt (refine' item_listM ?hqk1 ?hqk2 ?hqk3 ?hqk4 ?hqk5 ?hqk6 ?_; (case hqk1 => k_asm); (case hqk2 => k_mem); (case hqk3 => assumption); (case hqk4 | hqk5 | hqk6 => (first | lia | omega))); k_whole; intro _)) | ((k_here; (with_reducible show wpAny _ _ (subscriptTail _ _ (Value.ref _) (Value.int _ _)) _ _ _); k_dflt (refine' item_tupM ?hqk1 ?hqk2 ?hqk3 ?hqk4 ?hqk5 ?hqk6 ?_; (case hqk1 => k_asm); (case hqk2 => k_mem); (case hqk3 => assumption); (case hqk4 | hqk5 | hqk6 => (first | lia | omega))); k_whole; intro _)))) | ((k_here; (with_reducible show wpAny _ _ (setItem (Value.ref _) (Value.int _ _) (Value.int _ _)) _ _ _); k_dflt (refine' dset ?hqF ?hqN ?hqU ?hqd ?hqz ?_; (case hqF | hqN => k_asm); (case hqU => k_updF); (case hqd => assumption); (case hqz => (first | lia | omega))); intro _ _ _ hq_Np _; (try dsimp only at hq_Np); (try k_sweep))) | ((with_reducible show wpAny _ _ (call (Value.ref _) _) _ _ _); (first | ((k_here; (with_reducible show wpAny _ _ (call (Value.ref 115) _) _ _ _); k_dflt (refine' ct_useI (ipow_ct _ _ _ _ _ _ _ _ ?hqh1 ?hqh2 ?hqh3) ?kB ?kF ?kX ?kN ?kT ?kk ?kP ?kd ?ku ?_; (case hqh1 => first | assumption | (first | lia | omega)); (case hqh2 | hqh3 => (first | lia | omega)); (((case kB | kF | kX | kN | kT => k_asm); (case kk => first | exact rfl | assumption); (case kP => exact trivial); (case kd | ku => (((try dsimp only [ktrTop, Around.deeper, Around.in1] at *); (first | lia | omega)))); k_whole; intro mq_tp mq_hp mq_tkp mq_Fp mq_Np; (try dsimp only); (try k_sweep); (try k_fold)))))) | ((k_here; (with_reducible show wpAny _ _ (call (Value.ref 94) _) _ _ _); k_dflt (refine' ct_useI (mod_ct _ _ _ _ _ _ _ _ ?hqhm) ?kB ?kF ?kX ?kN ?kT ?kk ?kP ?kd ?ku ?_; (case hqhm => first | assumption | (first | lia | omega)); (((case kB | kF | kX | kN | kT => k_asm); (case kk => first | exact rfl | assumption); (case kP => exact trivial); (case kd | ku => (((try dsimp only [ktrTop, Around.deeper, Around.in1] at *); (first | lia | omega)))); k_whole; intro mq_tp mq_hp mq_tkp mq_Fp mq_Np; (try dsimp only); (try k_sweep); (try k_fold)))))) | ((k_here; (with_reducible show wpAny _ _ (call (Value.ref 101) _) _ _ _); k_dflt (refine' ct_useI (mul_ct _ _ _ _ _ _ _ _ ?hqhm) ?kB ?kF ?kX ?kN ?kT ?kk ?kP ?kd ?ku ?_; (case hqhm => first | assumption | (apply_assumption; (first | lia | omega))); (((case kB | kF | kX | kN | kT => k_asm); (case kk => first | exact rfl | assumption); (case kP => exact trivial); (case kd | ku => (((try dsimp only [ktrTop, Around.deeper, Around.in1] at *); (first | lia | omega)))); k_whole; intro mq_tp mq_hp mq_tkp mq_Fp mq_Np; (try dsimp only); (try k_sweep); (try k_fold)))))) | ((k_here; (with_reducible show wpAny _ _ (call (Value.ref 87) _) _ _ _); k_dflt (refine' ct_useI (add_ct _ _ _ _ _ _ _ _) ?kB ?kF ?kX ?kN ?kT ?kk ?kP ?kd ?ku ?_; (((case kB | kF | kX | kN | kT => k_asm); (case kk => first | exact rfl | assumption); (case kP => exact trivial); (case kd | ku => (((try dsimp only [ktrTop, Around.deeper, Around.in1] at *); (first | lia | omega)))); k_whole; intro mq_tp mq_hp mq_tkp mq_Fp mq_Np; (try dsimp only); (try k_sweep); (try k_fold)))))) | ((k_here; (with_reducible show wpAny _ _ (call (Value.ref 108) _) _ _ _); k_dflt (refine' ct_useI (countOf_ct _ _ _ _ _ _ _ _ _ _) ?kB ?kF ?kX ?kN ?kT ?kk ?kP ?kd ?ku ?_; (((case kB | kF | kX | kN | kT => k_asm); (case kk => first | exact rfl | assumption); (case kP => (first | ((refine ⟨?_, by k_mem⟩; first | assumption | exact IsWord.mono (by assumption) (by (first | exact fun _ h => h | (intro p hp; k_ownIn) | (intro p hp; exact List.mem_append.mpr (.inl hp)) | (intro p hp; exact List.mem_cons_of_mem _ (List.mem_append.mpr (.inl hp))) | (intro p hp; simp only [List.mem_append, List.mem_cons] at *; simp [hp]))))) | (first | exact trivial | assumption | exact Ws.mono (by assumption) (by (first | exact fun _ h => h | (intro p hp; k_ownIn) | (intro p hp; exact List.mem_append.mpr (.inl hp)) | (intro p hp; exact List.mem_cons_of_mem _ (List.mem_append.mpr (.inl hp))) | (intro p hp; simp only [List.mem_append, List.mem_cons] at *; simp [hp])))))); (case kd | ku => (((try dsimp only [ktrTop, Around.deeper, Around.in1] at *); (first | lia | omega)))); k_whole; intro mq_tp mq_hp mq_tkp mq_Fp mq_Np; (try dsimp only); (try k_sweep); (try k_fold)))))))) | ((with_reducible show wpAny _ _ (newTuple _) _ _ _); ((k_here; k_dflt (refine' kup_newTuple ?hqF ?hqN ?_ ?hqz; (case hqF | hqN => k_asm); (case hqz => kmk_size)); intro _ _ _ _ hq_l1; (try k_lt hq_l1); (try k_sweep)))) | ((k_here; (with_reducible show wpAny _ _ (call (Value.type _) [Value.ref _]) _ _ _); k_dflt (refine' kde_tupleOf ?hqk1 ?hqk2 ?hqk3 ?hqk4 ?hqk5 ?_; (case hqk1 | hqk2 => k_asm); (case hqk3 => exact News.isList (by k_asm) (by k_mem)); (case hqk4 => (simp only [List.size_toArray]; (first | lia | omega))); (case hqk5 => exact rfl); k_whole); intro _ _ _ _ hq_l1; (try k_lt hq_l1); (try k_sweep))) | ((with_reducible show wpAny _ _ (call (Value.builtin _) _) _ _ _); (first | ((k_here; (with_reducible show wpAny _ _ (call (Value.builtin "len") [Value.ref _]) _ _ _); k_dflt (refine' len_tupM ?hqk1 ?hqk2 ?hqk3 ?hqk4 ?_; (case hqk1 => k_asm); (case hqk2 => k_mem); (case hqk3 => first | exact IntsAre.length (by assumption) | assumption); (case hqk4 => (first | lia | omega))); k_whole)) | ((k_here; (with_reducible show wpAny _ _ (call (Value.builtin "len") [Value.ref _]) _ _ _); k_dflt (refine' len_listM ?hqk1 ?hqk2 ?hqk3 ?hqk4 ?_; (case hqk1 => k_asm); (case hqk2 => k_mem); (case hqk3 => first | exact IntsAre.length (by assumption) | assumption); (case hqk4 => (first | lia | omega))); k_whole)))))) | ((fail_if_success with_reducible (first | show wpAny _ _ (exec (Stmt.For _ _ _ _ _) _) _ _ _ | show wpAny _ _ (pyIter _) _ _ _ | show wpAny _ _ (exec (Stmt.Assign _ (Expr.ListComp _ _ _ _) _) _) _ _ _ | show wpAny _ _ (eval (Expr.ListComp _ _ _ _) _) _ _ _ | show LCg.CompSrc _ _ _ _ _ _ _ _ _ _ _ _ _ _ | show LCg.CompEnd _ _ _ _ _ _ _ _ _ _ _ _ _ _ | show LCt.CompSrcT _ _ _ _ _ _ _ _ _ _ _ _ _ _ _)); first | walk1 | (dsimp only; walk1)) | (leave1; try dsimp only) | fail))
      rename Fr _ _ _ _ => lF
      rename News _ _ _ _ => lN
      rename IsRange _ _ _ _ _ _ _ _ => hR
      with_unfolding_all refine lp_range (σ := WoSt) (n := c1 + 1) (fun c => (td, c.o) :: (R ++ own1)) (fun c => plP c.pl) [Str.ofString "place", Str.ofString "worth", Str.ofString "k"] (fun j c => DictIs w c.o c.D ∧ Fil q c1 c2 i j 0 c.D ∧ c.D.length ≤ 100 * i + 10 * j ∧ (0 < j → ∃ t, c.pl = some (plv i (j - 1) c2, t))) ⟨ci.o, ci.D, none⟩ (by exact rfl) hR (small_of (by (first | lia | omega)) (by (first | lia | omega)) (by (first | lia | omega)) (by (first | lia | omega))) (by rw [rangeSize_nat]; (first | lia | omega)) lF lN (List.forall_mem_nil _) ⟨hDi, hFi, by dsimp only; (first | lia | omega), fun h => absurd h (by (first | lia | omega))⟩ ?_ ?_
      · intro cj j tj uj hj' tkj own2 hj hoff2 hPj Fj Nj
        have hDj := hPj.1
        have hFj := hPj.2.1
        have hLj := hPj.2.2.1
        replace Fj := forgetP (by decide +kernel) Fj
        obtain ⟨uj2, Fj⟩ := Fj
        simp only [List.cons_append] at Nj
        have hne2 : ∀ p ∈ R ++ own1 ++ own2, p.1 ≠ td := ne_app hne1 (fun p hp => hoff2 p hp td (by simp))
        try k_fold
        (repeat' (first | (k_unfold; (try dsimp only)) | (k_end; wrow_close) | ((with_reducible show wpAny _ _ (execs (_ :: _) _) _ _ (Shared.mk _ _ _ (_ + 1) _)); (with_reducible refine toks_cut ?_); intro _) | ((first | ((with_reducible show wpAny _ _ (subscriptTail _ _ (Value.ref _) _) _ _ _); (first | ((k_here; (with_reducible show wpAny _ _ (subscriptTail _ _ (Value.ref _) (Value.int _ _)) _ _ _); k_dflt (refine' item_refM ?hqk1 ?hqk2 ?hqk4 ?hqk5 ?hqk6 ?_; (case hqk1 => k_asm); (case hqk2 => k_mem); (case hqk4 | hqk5 => (first | lia | omega)); (case hqk6 => first | assumption | exact rfl)); k_whole)) | ((k_here; (with_reducible show wpAny _ _ (subscriptTail _ _ (Value.ref _) (Value.int _ _)) _ _ _); k_dflt (refine' dget ?hqk1 ?hqk2 ?hqk3 ?hqk4 ?hqk5 ?_; (case hqk1 => k_asm); (case hqk2 => k_mem); (case hqk3 | hqk4 => assumption); (case hqk5 => first | assumption | (apply_assumption; (first | lia | omega)))); k_whole; intro _)) | ((k_here; (with_reducible show wpAny _ _ (subscriptTail _ _ (Value.ref _) (Value.int _ _)) _ _ _); k_dflt (refine' item_listM ?hqk1 ?hqk2 ?hqk3 ?hqk4 ?hqk5 ?hqk6 ?_; (case hqk1 => k_asm); (case hqk2 => k_mem); (case hqk3 => assumption); (case hqk4 | hqk5 | hqk6 => (first | lia | omega))); k_whole; intro _)) | ((k_here; (with_reducible show wpAny _ _ (subscriptTail _ _ (Value.ref _) (Value.int _ _)) _ _ _); k_dflt (refine' item_tupM ?hqk1 ?hqk2 ?hqk3 ?hqk4 ?hqk5 ?hqk6 ?_; (case hqk1 => k_asm); (case hqk2 => k_mem); (case hqk3 => assumption); (case hqk4 | hqk5 | hqk6 => (first | lia | omega))); k_whole; intro _)))) | ((k_here; (with_reducible show wpAny _ _ (setItem (Value.ref _) (Value.int _ _) (Value.int _ _)) _ _ _); k_dflt (refine' dset ?hqF ?hqN ?hqU ?hqd ?hqz ?_; (case hqF | hqN => k_asm); (case hqU => k_updF); (case hqd => assumption); (case hqz => (first | lia | omega))); intro _ _ _ hq_Np _; (try dsimp only at hq_Np); (try k_sweep))) | ((with_reducible show wpAny _ _ (call (Value.ref _) _) _ _ _); (first | ((k_here; (with_reducible show wpAny _ _ (call (Value.ref 115) _) _ _ _); k_dflt (refine' ct_useI (ipow_ct _ _ _ _ _ _ _ _ ?hqh1 ?hqh2 ?hqh3) ?kB ?kF ?kX ?kN ?kT ?kk ?kP ?kd ?ku ?_; (case hqh1 => first | assumption | (first | lia | omega)); (case hqh2 | hqh3 => (first | lia | omega)); (((case kB | kF | kX | kN | kT => k_asm); (case kk => first | exact rfl | assumption); (case kP => exact trivial); (case kd | ku => (((try dsimp only [ktrTop, Around.deeper, Around.in1] at *); (first | lia | omega)))); k_whole; intro mq_tp mq_hp mq_tkp mq_Fp mq_Np; (try dsimp only); (try k_sweep); (try k_fold)))))) | ((k_here; (with_reducible show wpAny _ _ (call (Value.ref 94) _) _ _ _); k_dflt (refine' ct_useI (mod_ct _ _ _ _ _ _ _ _ ?hqhm) ?kB ?kF ?kX ?kN ?kT ?kk ?kP ?kd ?ku ?_; (case hqhm => first | assumption | (first | lia | omega)); (((case kB | kF | kX | kN | kT => k_asm); (case kk => first | exact rfl | assumption); (case kP => exact trivial); (case kd | ku => (((try dsimp only [ktrTop, Around.deeper, Around.in1] at *); (first | lia | omega)))); k_whole; intro mq_tp mq_hp mq_tkp mq_Fp mq_Np; (try dsimp only); (try k_sweep); (try k_fold)))))) | ((k_here; (with_reducible show wpAny _ _ (call (Value.ref 101) _) _ _ _); k_dflt (refine' ct_useI (mul_ct _ _ _ _ _ _ _ _ ?hqhm) ?kB ?kF ?kX ?kN ?kT ?kk ?kP ?kd ?ku ?_; (case hqhm => first | assumption | (apply_assumption; (first | lia | omega))); (((case kB | kF | kX | kN | kT => k_asm); (case kk => first | exact rfl | assumption); (case kP => exact trivial); (case kd | ku => (((try dsimp only [ktrTop, Around.deeper, Around.in1] at *); (first | lia | omega)))); k_whole; intro mq_tp mq_hp mq_tkp mq_Fp mq_Np; (try dsimp only); (try k_sweep); (try k_fold)))))) | ((k_here; (with_reducible show wpAny _ _ (call (Value.ref 87) _) _ _ _); k_dflt (refine' ct_useI (add_ct _ _ _ _ _ _ _ _) ?kB ?kF ?kX ?kN ?kT ?kk ?kP ?kd ?ku ?_; (((case kB | kF | kX | kN | kT => k_asm); (case kk => first | exact rfl | assumption); (case kP => exact trivial); (case kd | ku => (((try dsimp only [ktrTop, Around.deeper, Around.in1] at *); (first | lia | omega)))); k_whole; intro mq_tp mq_hp mq_tkp mq_Fp mq_Np; (try dsimp only); (try k_sweep); (try k_fold)))))) | ((k_here; (with_reducible show wpAny _ _ (call (Value.ref 108) _) _ _ _); k_dflt (refine' ct_useI (countOf_ct _ _ _ _ _ _ _ _ _ _) ?kB ?kF ?kX ?kN ?kT ?kk ?kP ?kd ?ku ?_; (((case kB | kF | kX | kN | kT => k_asm); (case kk => first | exact rfl | assumption); (case kP => (first | ((refine ⟨?_, by k_mem⟩; first | assumption | exact IsWord.mono (by assumption) (by (first | exact fun _ h => h | (intro p hp; k_ownIn) | (intro p hp; exact List.mem_append.mpr (.inl hp)) | (intro p hp; exact List.mem_cons_of_mem _ (List.mem_append.mpr (.inl hp))) | (intro p hp; simp only [List.mem_append, List.mem_cons] at *; simp [hp]))))) | (first | exact trivial | assumption | exact Ws.mono (by assumption) (by (first | exact fun _ h => h | (intro p hp; k_ownIn) | (intro p hp; exact List.mem_append.mpr (.inl hp)) | (intro p hp; exact List.mem_cons_of_mem _ (List.mem_append.mpr (.inl hp))) | (intro p hp; simp only [List.mem_append, List.mem_cons] at *; simp [hp])))))); (case kd | ku => (((try dsimp only [ktrTop, Around.deeper, Around.in1] at *); (first | lia | omega)))); k_whole; intro mq_tp mq_hp mq_tkp mq_Fp mq_Np; (try dsimp only); (try k_sweep); (try k_fold)))))))) | ((with_reducible show wpAny _ _ (newTuple _) _ _ _); ((k_here; k_dflt (refine' kup_newTuple ?hqF ?hqN ?_ ?hqz; (case hqF | hqN => k_asm); (case hqz => kmk_size)); intro _ _ _ _ hq_l1; (try k_lt hq_l1); (try k_sweep)))) | ((k_here; (with_reducible show wpAny _ _ (call (Value.type _) [Value.ref _]) _ _ _); k_dflt (refine' kde_tupleOf ?hqk1 ?hqk2 ?hqk3 ?hqk4 ?hqk5 ?_; (case hqk1 | hqk2 => k_asm); (case hqk3 => exact News.isList (by k_asm) (by k_mem)); (case hqk4 => (simp only [List.size_toArray]; (first | lia | omega))); (case hqk5 => exact rfl); k_whole); intro _ _ _ _ hq_l1; (try k_lt hq_l1); (try k_sweep))) | ((with_reducible show wpAny _ _ (call (Value.builtin _) _) _ _ _); (first | ((k_here; (with_reducible show wpAny _ _ (call (Value.builtin "len") [Value.ref _]) _ _ _); k_dflt (refine' len_tupM ?hqk1 ?hqk2 ?hqk3 ?hqk4 ?_; (case hqk1 => k_asm); (case hqk2 => k_mem); (case hqk3 => first | exact IntsAre.length (by assumption) | assumption); (case hqk4 => (first | lia | omega))); k_whole)) | ((k_here; (with_reducible show wpAny _ _ (call (Value.builtin "len") [Value.ref _]) _ _ _); k_dflt (refine' len_listM ?hqk1 ?hqk2 ?hqk3 ?hqk4 ?_; (case hqk1 => k_asm); (case hqk2 => k_mem); (case hqk3 => first | exact IntsAre.length (by assumption) | assumption); (case hqk4 => (first | lia | omega))); k_whole)))))) | ((fail_if_success with_reducible (first | show wpAny _ _ (exec (Stmt.For _ _ _ _ _) _) _ _ _ | show wpAny _ _ (pyIter _) _ _ _ | show wpAny _ _ (exec (Stmt.Assign _ (Expr.ListComp _ _ _ _) _) _) _ _ _ | show wpAny _ _ (eval (Expr.ListComp _ _ _ _) _) _ _ _ | show LCg.CompSrc _ _ _ _ _ _ _ _ _ _ _ _ _ _ | show LCg.CompEnd _ _ _ _ _ _ _ _ _ _ _ _ _ _ | show LCt.CompSrcT _ _ _ _ _ _ _ _ _ _ _ _ _ _ _)); first | walk1 | (dsimp only; walk1)) | (leave1; try dsimp only) | fail))
        rename Fr _ _ _ _ => lF
        with_unfolding_all refine' For_invVF lF (by exact rfl) (by exact rfl) ?_
        (repeat' (first | (k_unfold; (try dsimp only)) | (k_end; wrow_close) | ((with_reducible show wpAny _ _ (execs (_ :: _) _) _ _ (Shared.mk _ _ _ (_ + 1) _)); (with_reducible refine toks_cut ?_); intro _) | ((first | ((with_reducible show wpAny _ _ (subscriptTail _ _ (Value.ref _) _) _ _ _); (first | ((k_here; (with_reducible show wpAny _ _ (subscriptTail _ _ (Value.ref _) (Value.int _ _)) _ _ _); k_dflt (refine' item_refM ?hqk1 ?hqk2 ?hqk4 ?hqk5 ?hqk6 ?_; (case hqk1 => k_asm); (case hqk2 => k_mem); (case hqk4 | hqk5 => (first | lia | omega)); (case hqk6 => first | assumption | exact rfl)); k_whole)) | ((k_here; (with_reducible show wpAny _ _ (subscriptTail _ _ (Value.ref _) (Value.int _ _)) _ _ _); k_dflt (refine' dget ?hqk1 ?hqk2 ?hqk3 ?hqk4 ?hqk5 ?_; (case hqk1 => k_asm); (case hqk2 => k_mem); (case hqk3 | hqk4 => assumption); (case hqk5 => first | assumption | (apply_assumption; (first | lia | omega)))); k_whole; intro _)) | ((k_here; (with_reducible show wpAny _ _ (subscriptTail _ _ (Value.ref _) (Value.int _ _)) _ _ _); k_dflt (refine' item_listM ?hqk1 ?hqk2 ?hqk3 ?hqk4 ?hqk5 ?hqk6 ?_; (case hqk1 => k_asm); (case hqk2 => k_mem); (case hqk3 => assumption); (case hqk4 | hqk5 | hqk6 => (first | lia | omega))); k_whole; intro _)) | ((k_here; (with_reducible show wpAny _ _ (subscriptTail _ _ (Value.ref _) (Value.int _ _)) _ _ _); k_dflt (refine' item_tupM ?hqk1 ?hqk2 ?hqk3 ?hqk4 ?hqk5 ?hqk6 ?_; (case hqk1 => k_asm); (case hqk2 => k_mem); (case hqk3 => assumption); (case hqk4 | hqk5 | hqk6 => (first | lia | omega))); k_whole; intro _)))) | ((k_here; (with_reducible show wpAny _ _ (setItem (Value.ref _) (Value.int _ _) (Value.int _ _)) _ _ _); k_dflt (refine' dset ?hqF ?hqN ?hqU ?hqd ?hqz ?_; (case hqF | hqN => k_asm); (case hqU => k_updF); (case hqd => assumption); (case hqz => (first | lia | omega))); intro _ _ _ hq_Np _; (try dsimp only at hq_Np); (try k_sweep))) | ((with_reducible show wpAny _ _ (call (Value.ref _) _) _ _ _); (first | ((k_here; (with_reducible show wpAny _ _ (call (Value.ref 115) _) _ _ _); k_dflt (refine' ct_useI (ipow_ct _ _ _ _ _ _ _ _ ?hqh1 ?hqh2 ?hqh3) ?kB ?kF ?kX ?kN ?kT ?kk ?kP ?kd ?ku ?_; (case hqh1 => first | assumption | (first | lia | omega)); (case hqh2 | hqh3 => (first | lia | omega)); (((case kB | kF | kX | kN | kT => k_asm); (case kk => first | exact rfl | assumption); (case kP => exact trivial); (case kd | ku => (((try dsimp only [ktrTop, Around.deeper, Around.in1] at *); (first | lia | omega)))); k_whole; intro mq_tp mq_hp mq_tkp mq_Fp mq_Np; (try dsimp only); (try k_sweep); (try k_fold)))))) | ((k_here; (with_reducible show wpAny _ _ (call (Value.ref 94) _) _ _ _); k_dflt (refine' ct_useI (mod_ct _ _ _ _ _ _ _ _ ?hqhm) ?kB ?kF ?kX ?kN ?kT ?kk ?kP ?kd ?ku ?_; (case hqhm => first | assumption | (first | lia | omega)); (((case kB | kF | kX | kN | kT => k_asm); (case kk => first | exact rfl | assumption); (case kP => exact trivial); (case kd | ku => (((try dsimp only [ktrTop, Around.deeper, Around.in1] at *); (first | lia | omega)))); k_whole; intro mq_tp mq_hp mq_tkp mq_Fp mq_Np; (try dsimp only); (try k_sweep); (try k_fold)))))) | ((k_here; (with_reducible show wpAny _ _ (call (Value.ref 101) _) _ _ _); k_dflt (refine' ct_useI (mul_ct _ _ _ _ _ _ _ _ ?hqhm) ?kB ?kF ?kX ?kN ?kT ?kk ?kP ?kd ?ku ?_; (case hqhm => first | assumption | (apply_assumption; (first | lia | omega))); (((case kB | kF | kX | kN | kT => k_asm); (case kk => first | exact rfl | assumption); (case kP => exact trivial); (case kd | ku => (((try dsimp only [ktrTop, Around.deeper, Around.in1] at *); (first | lia | omega)))); k_whole; intro mq_tp mq_hp mq_tkp mq_Fp mq_Np; (try dsimp only); (try k_sweep); (try k_fold)))))) | ((k_here; (with_reducible show wpAny _ _ (call (Value.ref 87) _) _ _ _); k_dflt (refine' ct_useI (add_ct _ _ _ _ _ _ _ _) ?kB ?kF ?kX ?kN ?kT ?kk ?kP ?kd ?ku ?_; (((case kB | kF | kX | kN | kT => k_asm); (case kk => first | exact rfl | assumption); (case kP => exact trivial); (case kd | ku => (((try dsimp only [ktrTop, Around.deeper, Around.in1] at *); (first | lia | omega)))); k_whole; intro mq_tp mq_hp mq_tkp mq_Fp mq_Np; (try dsimp only); (try k_sweep); (try k_fold)))))) | ((k_here; (with_reducible show wpAny _ _ (call (Value.ref 108) _) _ _ _); k_dflt (refine' ct_useI (countOf_ct _ _ _ _ _ _ _ _ _ _) ?kB ?kF ?kX ?kN ?kT ?kk ?kP ?kd ?ku ?_; (((case kB | kF | kX | kN | kT => k_asm); (case kk => first | exact rfl | assumption); (case kP => (first | ((refine ⟨?_, by k_mem⟩; first | assumption | exact IsWord.mono (by assumption) (by (first | exact fun _ h => h | (intro p hp; k_ownIn) | (intro p hp; exact List.mem_append.mpr (.inl hp)) | (intro p hp; exact List.mem_cons_of_mem _ (List.mem_append.mpr (.inl hp))) | (intro p hp; simp only [List.mem_append, List.mem_cons] at *; simp [hp]))))) | (first | exact trivial | assumption | exact Ws.mono (by assumption) (by (first | exact fun _ h => h | (intro p hp; k_ownIn) | (intro p hp; exact List.mem_append.mpr (.inl hp)) | (intro p hp; exact List.mem_cons_of_mem _ (List.mem_append.mpr (.inl hp))) | (intro p hp; simp only [List.mem_append, List.mem_cons] at *; simp [hp])))))); (case kd | ku => (((try dsimp only [ktrTop, Around.deeper, Around.in1] at *); (first | lia | omega)))); k_whole; intro mq_tp mq_hp mq_tkp mq_Fp mq_Np; (try dsimp only); (try k_sweep); (try k_fold)))))))) | ((with_reducible show wpAny _ _ (newTuple _) _ _ _); ((k_here; k_dflt (refine' kup_newTuple ?hqF ?hqN ?_ ?hqz; (case hqF | hqN => k_asm); (case hqz => kmk_size)); intro _ _ _ _ hq_l1; (try k_lt hq_l1); (try k_sweep)))) | ((k_here; (with_reducible show wpAny _ _ (call (Value.type _) [Value.ref _]) _ _ _); k_dflt (refine' kde_tupleOf ?hqk1 ?hqk2 ?hqk3 ?hqk4 ?hqk5 ?_; (case hqk1 | hqk2 => k_asm); (case hqk3 => exact News.isList (by k_asm) (by k_mem)); (case hqk4 => (simp only [List.size_toArray]; (first | lia | omega))); (case hqk5 => exact rfl); k_whole); intro _ _ _ _ hq_l1; (try k_lt hq_l1); (try k_sweep))) | ((with_reducible show wpAny _ _ (call (Value.builtin _) _) _ _ _); (first | ((k_here; (with_reducible show wpAny _ _ (call (Value.builtin "len") [Value.ref _]) _ _ _); k_dflt (refine' len_tupM ?hqk1 ?hqk2 ?hqk3 ?hqk4 ?_; (case hqk1 => k_asm); (case hqk2 => k_mem); (case hqk3 => first | exact IntsAre.length (by assumption) | assumption); (case hqk4 => (first | lia | omega))); k_whole)) | ((k_here; (with_reducible show wpAny _ _ (call (Value.builtin "len") [Value.ref _]) _ _ _); k_dflt (refine' len_listM ?hqk1 ?hqk2 ?hqk3 ?hqk4 ?_; (case hqk1 => k_asm); (case hqk2 => k_mem); (case hqk3 => first | exact IntsAre.length (by assumption) | assumption); (case hqk4 => (first | lia | omega))); k_whole)))))) | ((fail_if_success with_reducible (first | show wpAny _ _ (exec (Stmt.For _ _ _ _ _) _) _ _ _ | show wpAny _ _ (pyIter _) _ _ _ | show wpAny _ _ (exec (Stmt.Assign _ (Expr.ListComp _ _ _ _) _) _) _ _ _ | show wpAny _ _ (eval (Expr.ListComp _ _ _ _) _) _ _ _ | show LCg.CompSrc _ _ _ _ _ _ _ _ _ _ _ _ _ _ | show LCg.CompEnd _ _ _ _ _ _ _ _ _ _ _ _ _ _ | show LCt.CompSrcT _ _ _ _ _ _ _ _ _ _ _ _ _ _ _)); first | walk1 | (dsimp only; walk1)) | (leave1; try dsimp only) | fail))
        rename Fr _ _ _ _ => lF
        rename News _ _ _ _ => lN
        rename IsRange _ _ _ _ _ _ _ _ => hR
        with_unfolding_all refine lp_range (σ := WoSt) (n := c2 + 1) (fun c => (td, c.o) :: (R ++ own1 ++ own2)) (fun c => plP c.pl) [Str.ofString "place", Str.ofString "worth"] (fun k c => DictIs w c.o c.D ∧ Fil q c1 c2 i j k c.D ∧ c.D.length ≤ 100 * i + 10 * j + k ∧ (0 < k → ∃ t, c.pl = some (plv i j (k - 1), t))) ⟨cj.o, cj.D, none⟩ (by exact rfl) hR (small_of (by (first | lia | omega)) (by (first | lia | omega)) (by (first | lia | omega)) (by (first | lia | omega))) (by rw [rangeSize_nat]; (first | lia | omega)) lF lN (List.forall_mem_nil _) ⟨hDj, hFj, by dsimp only; (first | lia | omega), fun h => absurd h (by (first | lia | omega))⟩ ?_ ?_
        · intro ck k tk0 uk hk' tkk own3 hk3 hoff3 hPk Fk Nk
          have hDk := hPk.1
          have hFk := hPk.2.1
          have hLk := hPk.2.2.1
          replace Fk := forgetP (by decide +kernel) Fk
          obtain ⟨uk2, Fk⟩ := Fk
          simp only [List.cons_append] at Nk
          have hne3 : ∀ p ∈ R ++ own1 ++ own2 ++ own3, p.1 ≠ td := ne_app hne2 (fun p hp => hoff3 p hp td (by simp))
          have hq64 : q.natAbs < 2 ^ 64 := by (first | lia | omega)
          have hg1 : 0 < i → PySem.Spec.lookup (PyData.int ((0 + (i : Int)) * 64 + (0 + (j : Int)) * 8 + (0 + (k : Int)) - 64)) ck.D = some (.int (tab q (i - 1) j k)) := fun h => by
            have := hFk (i - 1) j k (by (first | lia | omega)) (by (first | lia | omega)) (by (first | lia | omega))
            rw [show (0 + ((i - 1 : Nat) : Int)) * 64 + (0 + (j : Int)) * 8 + (0 + (k : Int)) = (0 + (i : Int)) * 64 + (0 + (j : Int)) * 8 + (0 + (k : Int)) - 64 by (first | lia | omega)] at this
            exact this
          have hg2 : 0 < j → PySem.Spec.lookup (PyData.int ((0 + (i : Int)) * 64 + (0 + (j : Int)) * 8 + (0 + (k : Int)) - 8)) ck.D = some (.int (tab q i (j - 1) k)) := fun h => by
            have := hFk i (j - 1) k (by (first | lia | omega)) (by (first | lia | omega)) (by (first | lia | omega))
            rw [show (0 + (i : Int)) * 64 + (0 + ((j - 1 : Nat) : Int)) * 8 + (0 + (k : Int)) = (0 + (i : Int)) * 64 + (0 + (j : Int)) * 8 + (0 + (k : Int)) - 8 by (first | lia | omega)] at this
            exact this
          have hg3 : 0 < k → PySem.Spec.lookup (PyData.int ((0 + (i : Int)) * 64 + (0 + (j : Int)) * 8 + (0 + (k : Int)) - 1)) ck.D = some (.int (tab q i j (k - 1))) := fun h => by
            have := hFk i j (k - 1) (by (first | lia | omega)) (by (first | lia | omega)) (by (first | lia | omega))
            rw [show (0 + (i : Int)) * 64 + (0 + (j : Int)) * 8 + (0 + ((k - 1 : Nat) : Int)) = (0 + (i : Int)) * 64 + (0 + (j : Int)) * 8 + (0 + (k : Int)) - 1 by (first | lia | omega)] at this
            exact this
          have hm1 : 0 < i → IntMulOk (q ^ (0 + (j : Int) + (0 + (k : Int))).toNat) (tab q (i - 1) j k) := fun h => mulOk_tab hq (by (first | lia | omega)) (by (first | lia | omega))
          have hm2 : 0 < j → IntMulOk (q ^ (0 + (k : Int)).toNat) (tab q i (j - 1) k) := fun h => mulOk_tab hq (by (first | lia | omega)) (by (first | lia | omega))
          have e1 : (0 + (j : Int) + (0 + (k : Int))).toNat = j + k := by (first | lia | omega)
          have e2 : (0 + (k : Int)).toNat = k := by (first | lia | omega)
          try k_fold
          (repeat' (first | (k_unfold; (try dsimp only)) | (k_end; wrow_close) | ((with_reducible show wpAny _ _ (execs (_ :: _) _) _ _ (Shared.mk _ _ _ (_ + 1) _)); (with_reducible refine toks_cut ?_); intro _) | ((first | ((with_reducible show wpAny _ _ (subscriptTail _ _ (Value.ref _) _) _ _ _); (first | ((k_here; (with_reducible show wpAny _ _ (subscriptTail _ _ (Value.ref _) (Value.int _ _)) _ _ _); k_dflt (refine' item_refM ?hqk1 ?hqk2 ?hqk4 ?hqk5 ?hqk6 ?_; (case hqk1 => k_asm); (case hqk2 => k_mem); (case hqk4 | hqk5 => (first | lia | omega)); (case hqk6 => first | assumption | exact rfl)); k_whole)) | ((k_here; (with_reducible show wpAny _ _ (subscriptTail _ _ (Value.ref _) (Value.int _ _)) _ _ _); k_dflt (refine' dget ?hqk1 ?hqk2 ?hqk3 ?hqk4 ?hqk5 ?_; (case hqk1 => k_asm); (case hqk2 => k_mem); (case hqk3 | hqk4 => assumption); (case hqk5 => first | assumption | (apply_assumption; (first | lia | omega)))); k_whole; intro _)) | ((k_here; (with_reducible show wpAny _ _ (subscriptTail _ _ (Value.ref _) (Value.int _ _)) _ _ _); k_dflt (refine' item_listM ?hqk1 ?hqk2 ?hqk3 ?hqk4 ?hqk5 ?hqk6 ?_; (case hqk1 => k_asm); (case hqk2 => k_mem); (case hqk3 => assumption); (case hqk4 | hqk5 | hqk6 => (first | lia | omega))); k_whole; intro _)) | ((k_here; (with_reducible show wpAny _ _ (subscriptTail _ _ (Value.ref _) (Value.int _ _)) _ _ _); k_dflt (refine' item_tupM ?hqk1 ?hqk2 ?hqk3 ?hqk4 ?hqk5 ?hqk6 ?_; (case hqk1 => k_asm); (case hqk2 => k_mem); (case hqk3 => assumption); (case hqk4 | hqk5 | hqk6 => (first | lia | omega))); k_whole; intro _)))) | ((k_here; (with_reducible show wpAny _ _ (setItem (Value.ref _) (Value.int _ _) (Value.int _ _)) _ _ _); k_dflt (refine' dset ?hqF ?hqN ?hqU ?hqd ?hqz ?_; (case hqF | hqN => k_asm); (case hqU => k_updF); (case hqd => assumption); (case hqz => (first | lia | omega))); intro _ _ _ hq_Np _; (try dsimp only at hq_Np); (try k_sweep))) | ((with_reducible show wpAny _ _ (call (Value.ref _) _) _ _ _); (first | ((k_here; (with_reducible show wpAny _ _ (call (Value.ref 115) _) _ _ _); k_dflt (refine' ct_useI (ipow_ct _ _ _ _ _ _ _ _ ?hqh1 ?hqh2 ?hqh3) ?kB ?kF ?kX ?kN ?kT ?kk ?kP ?kd ?ku ?_; (case hqh1 => first | assumption | (first | lia | omega)); (case hqh2 | hqh3 => (first | lia | omega)); (((case kB | kF | kX | kN | kT => k_asm); (case kk => first | exact rfl | assumption); (case kP => exact trivial); (case kd | ku => (((try dsimp only [ktrTop, Around.deeper, Around.in1] at *); (first | lia | omega)))); k_whole; intro mq_tp mq_hp mq_tkp mq_Fp mq_Np; (try dsimp only); (try k_sweep); (try k_fold)))))) | ((k_here; (with_reducible show wpAny _ _ (call (Value.ref 94) _) _ _ _); k_dflt (refine' ct_useI (mod_ct _ _ _ _ _ _ _ _ ?hqhm) ?kB ?kF ?kX ?kN ?kT ?kk ?kP ?kd ?ku ?_; (case hqhm => first | assumption | (first | lia | omega)); (((case kB | kF | kX | kN | kT => k_asm); (case kk => first | exact rfl | assumption); (case kP => exact trivial); (case kd | ku => (((try dsimp only [ktrTop, Around.deeper, Around.in1] at *); (first | lia | omega)))); k_whole; intro mq_tp mq_hp mq_tkp mq_Fp mq_Np; (try dsimp only); (try k_sweep); (try k_fold)))))) | ((k_here; (with_reducible show wpAny _ _ (call (Value.ref 101) _) _ _ _); k_dflt (refine' ct_useI (mul_ct _ _ _ _ _ _ _ _ ?hqhm) ?kB ?kF ?kX ?kN ?kT ?kk ?kP ?kd ?ku ?_; (case hqhm => first | assumption | (apply_assumption; (first | lia | omega))); (((case kB | kF | kX | kN | kT => k_asm); (case kk => first | exact rfl | assumption); (case kP => exact trivial); (case kd | ku => (((try dsimp only [ktrTop, Around.deeper, Around.in1] at *); (first | lia | omega)))); k_whole; intro mq_tp mq_hp mq_tkp mq_Fp mq_Np; (try dsimp only); (try k_sweep); (try k_fold)))))) | ((k_here; (with_reducible show wpAny _ _ (call (Value.ref 87) _) _ _ _); k_dflt (refine' ct_useI (add_ct _ _ _ _ _ _ _ _) ?kB ?kF ?kX ?kN ?kT ?kk ?kP ?kd ?ku ?_; (((case kB | kF | kX | kN | kT => k_asm); (case kk => first | exact rfl | assumption); (case kP => exact trivial); (case kd | ku => (((try dsimp only [ktrTop, Around.deeper, Around.in1] at *); (first | lia | omega)))); k_whole; intro mq_tp mq_hp mq_tkp mq_Fp mq_Np; (try dsimp only); (try k_sweep); (try k_fold)))))) | ((k_here; (with_reducible show wpAny _ _ (call (Value.ref 108) _) _ _ _); k_dflt (refine' ct_useI (countOf_ct _ _ _ _ _ _ _ _ _ _) ?kB ?kF ?kX ?kN ?kT ?kk ?kP ?kd ?ku ?_; (((case kB | kF | kX | kN | kT => k_asm); (case kk => first | exact rfl | assumption); (case kP => (first | ((refine ⟨?_, by k_mem⟩; first | assumption | exact IsWord.mono (by assumption) (by (first | exact fun _ h => h | (intro p hp; k_ownIn) | (intro p hp; exact List.mem_append.mpr (.inl hp)) | (intro p hp; exact List.mem_cons_of_mem _ (List.mem_append.mpr (.inl hp))) | (intro p hp; simp only [List.mem_append, List.mem_cons] at *; simp [hp]))))) | (first | exact trivial | assumption | exact Ws.mono (by assumption) (by (first | exact fun _ h => h | (intro p hp; k_ownIn) | (intro p hp; exact List.mem_append.mpr (.inl hp)) | (intro p hp; exact List.mem_cons_of_mem _ (List.mem_append.mpr (.inl hp))) | (intro p hp; simp only [List.mem_append, List.mem_cons] at *; simp [hp])))))); (case kd | ku => (((try dsimp only [ktrTop, Around.deeper, Around.in1] at *); (first | lia | omega)))); k_whole; intro mq_tp mq_hp mq_tkp mq_Fp mq_Np; (try dsimp only); (try k_sweep); (try k_fold)))))))) | ((with_reducible show wpAny _ _ (newTuple _) _ _ _); ((k_here; k_dflt (refine' kup_newTuple ?hqF ?hqN ?_ ?hqz; (case hqF | hqN => k_asm); (case hqz => kmk_size)); intro _ _ _ _ hq_l1; (try k_lt hq_l1); (try k_sweep)))) | ((k_here; (with_reducible show wpAny _ _ (call (Value.type _) [Value.ref _]) _ _ _); k_dflt (refine' kde_tupleOf ?hqk1 ?hqk2 ?hqk3 ?hqk4 ?hqk5 ?_; (case hqk1 | hqk2 => k_asm); (case hqk3 => exact News.isList (by k_asm) (by k_mem)); (case hqk4 => (simp only [List.size_toArray]; (first | lia | omega))); (case hqk5 => exact rfl); k_whole); intro _ _ _ _ hq_l1; (try k_lt hq_l1); (try k_sweep))) | ((with_reducible show wpAny _ _ (call (Value.builtin _) _) _ _ _); (first | ((k_here; (with_reducible show wpAny _ _ (call (Value.builtin "len") [Value.ref _]) _ _ _); k_dflt (refine' len_tupM ?hqk1 ?hqk2 ?hqk3 ?hqk4 ?_; (case hqk1 => k_asm); (case hqk2 => k_mem); (case hqk3 => first | exact IntsAre.length (by assumption) | assumption); (case hqk4 => (first | lia | omega))); k_whole)) | ((k_here; (with_reducible show wpAny _ _ (call (Value.builtin "len") [Value.ref _]) _ _ _); k_dflt (refine' len_listM ?hqk1 ?hqk2 ?hqk3 ?hqk4 ?_; (case hqk1 => k_asm); (case hqk2 => k_mem); (case hqk3 => first | exact IntsAre.length (by assumption) | assumption); (case hqk4 => (first | lia | omega))); k_whole)))))) | ((fail_if_success with_reducible (first | show wpAny _ _ (exec (Stmt.If _ _ _ _) _) _ _ _ | show wpAny _ _ (eval (Expr.IfExp _ _ _ _) _) _ _ _ | show wpAny _ _ (exec (Stmt.For _ _ _ _ _) _) _ _ _ | show wpAny _ _ (pyIter _) _ _ _ | show wpAny _ _ (exec (Stmt.Assign _ (Expr.ListComp _ _ _ _) _) _) _ _ _ | show wpAny _ _ (eval (Expr.ListComp _ _ _ _) _) _ _ _ | show LCg.CompSrc _ _ _ _ _ _ _ _ _ _ _ _ _ _ | show LCg.CompEnd _ _ _ _ _ _ _ _ _ _ _ _ _ _ | show LCt.CompSrcT _ _ _ _ _ _ _ _ _ _ _ _ _ _ _)); first | walk1 | (dsimp only; walk1)) | (leave1; try dsimp only) | fail))
          refine iv_join (if (0 + (i : Int)) * 64 + (0 + (j : Int)) * 8 + (0 + (k : Int)) = 0 then 1 else 0) ?_ ?_
          · (repeat' (first | (k_unfold; (try dsimp only)) | (k_end; wrow_close) | ((with_reducible show wpAny _ _ (execs (_ :: _) _) _ _ (Shared.mk _ _ _ (_ + 1) _)); (with_reducible refine toks_cut ?_); intro _) | ((first | ((with_reducible show wpAny _ _ (subscriptTail _ _ (Value.ref _) _) _ _ _); (first | ((k_here; (with_reducible show wpAny _ _ (subscriptTail _ _ (Value.ref _) (Value.int _ _)) _ _ _); k_dflt (refine' item_refM ?hqk1 ?hqk2 ?hqk4 ?hqk5 ?hqk6 ?_; (case hqk1 => k_asm); (case hqk2 => k_mem); (case hqk4 | hqk5 => (first | lia | omega)); (case hqk6 => first | assumption | exact rfl)); k_whole)) | ((k_here; (with_reducible show wpAny _ _ (subscriptTail _ _ (Value.ref _) (Value.int _ _)) _ _ _); k_dflt (refine' dget ?hqk1 ?hqk2 ?hqk3 ?hqk4 ?hqk5 ?_; (case hqk1 => k_asm); (case hqk2 => k_mem); (case hqk3 | hqk4 => assumption); (case hqk5 => first | assumption | (apply_assumption; (first | lia | omega)))); k_whole; intro _)) | ((k_here; (with_reducible show wpAny _ _ (subscriptTail _ _ (Value.ref _) (Value.int _ _)) _ _ _); k_dflt (refine' item_listM ?hqk1 ?hqk2 ?hqk3 ?hqk4 ?hqk5 ?hqk6 ?_; (case hqk1 => k_asm); (case hqk2 => k_mem); (case hqk3 => assumption); (case hqk4 | hqk5 | hqk6 => (first | lia | omega))); k_whole; intro _)) | ((k_here; (with_reducible show wpAny _ _ (subscriptTail _ _ (Value.ref _) (Value.int _ _)) _ _ _); k_dflt (refine' item_tupM ?hqk1 ?hqk2 ?hqk3 ?hqk4 ?hqk5 ?hqk6 ?_; (case hqk1 => k_asm); (case hqk2 => k_mem); (case hqk3 => assumption); (case hqk4 | hqk5 | hqk6 => (first | lia | omega))); k_whole; intro _)))) | ((k_here; (with_reducible show wpAny _ _ (setItem (Value.ref _) (Value.int _ _) (Value.int _ _)) _ _ _); k_dflt (refine' dset ?hqF ?hqN ?hqU ?hqd ?hqz ?_; (case hqF | hqN => k_asm); (case hqU => k_updF); (case hqd => assumption); (case hqz => (first | lia | omega))); intro _ _ _ hq_Np _; (try dsimp only at hq_Np); (try k_sweep))) | ((with_reducible show wpAny _ _ (call (Value.ref _) _) _ _ _); (first | ((k_here; (with_reducible show wpAny _ _ (call (Value.ref 115) _) _ _ _); k_dflt (refine' ct_useI (ipow_ct _ _ _ _ _ _ _ _ ?hqh1 ?hqh2 ?hqh3) ?kB ?kF ?kX ?kN ?kT ?kk ?kP ?kd ?ku ?_; (case hqh1 => first | assumption | (first | lia | omega)); (case hqh2 | hqh3 => (first | lia | omega)); (((case kB | kF | kX | kN | kT => k_asm); (case kk => first | exact rfl | assumption); (case kP => exact trivial); (case kd | ku => (((try dsimp only [ktrTop, Around.deeper, Around.in1] at *); (first | lia | omega)))); k_whole; intro mq_tp mq_hp mq_tkp mq_Fp mq_Np; (try dsimp only); (try k_sweep); (try k_fold)))))) | ((k_here; (with_reducible show wpAny _ _ (call (Value.ref 94) _) _ _ _); k_dflt (refine' ct_useI (mod_ct _ _ _ _ _ _ _ _ ?hqhm) ?kB ?kF ?kX ?kN ?kT ?kk ?kP ?kd ?ku ?_; (case hqhm => first | assumption | (first | lia | omega)); (((case kB | kF | kX | kN | kT => k_asm); (case kk => first | exact rfl | assumption); (case kP => exact trivial); (case kd | ku => (((try dsimp only [ktrTop, Around.deeper, Around.in1] at *); (first | lia | omega)))); k_whole; intro mq_tp mq_hp mq_tkp mq_Fp mq_Np; (try dsimp only); (try k_sweep); (try k_fold)))))) | ((k_here; (with_reducible show wpAny _ _ (call (Value.ref 101) _) _ _ _); k_dflt (refine' ct_useI (mul_ct _ _ _ _ _ _ _ _ ?hqhm) ?kB ?kF ?kX ?kN ?kT ?kk ?kP ?kd ?ku ?_; (case hqhm => first | assumption | (apply_assumption; (first | lia | omega))); (((case kB | kF | kX | kN | kT => k_asm); (case kk => first | exact rfl | assumption); (case kP => exact trivial); (case kd | ku => (((try dsimp only [ktrTop, Around.deeper, Around.in1] at *); (first | lia | omega)))); k_whole; intro mq_tp mq_hp mq_tkp mq_Fp mq_Np; (try dsimp only); (try k_sweep); (try k_fold)))))) | ((k_here; (with_reducible show wpAny _ _ (call (Value.ref 87) _) _ _ _); k_dflt (refine' ct_useI (add_ct _ _ _ _ _ _ _ _) ?kB ?kF ?kX ?kN ?kT ?kk ?kP ?kd ?ku ?_; (((case kB | kF | kX | kN | kT => k_asm); (case kk => first | exact rfl | assumption); (case kP => exact trivial); (case kd | ku => (((try dsimp only [ktrTop, Around.deeper, Around.in1] at *); (first | lia | omega)))); k_whole; intro mq_tp mq_hp mq_tkp mq_Fp mq_Np; (try dsimp only); (try k_sweep); (try k_fold)))))) | ((k_here; (with_reducible show wpAny _ _ (call (Value.ref 108) _) _ _ _); k_dflt (refine' ct_useI (countOf_ct _ _ _ _ _ _ _ _ _ _) ?kB ?kF ?kX ?kN ?kT ?kk ?kP ?kd ?ku ?_; (((case kB | kF | kX | kN | kT => k_asm); (case kk => first | exact rfl | assumption); (case kP => (first | ((refine ⟨?_, by k_mem⟩; first | assumption | exact IsWord.mono (by assumption) (by (first | exact fun _ h => h | (intro p hp; k_ownIn) | (intro p hp; exact List.mem_append.mpr (.inl hp)) | (intro p hp; exact List.mem_cons_of_mem _ (List.mem_append.mpr (.inl hp))) | (intro p hp; simp only [List.mem_append, List.mem_cons] at *; simp [hp]))))) | (first | exact trivial | assumption | exact Ws.mono (by assumption) (by (first | exact fun _ h => h | (intro p hp; k_ownIn) | (intro p hp; exact List.mem_append.mpr (.inl hp)) | (intro p hp; exact List.mem_cons_of_mem _ (List.mem_append.mpr (.inl hp))) | (intro p hp; simp only [List.mem_append, List.mem_cons] at *; simp [hp])))))); (case kd | ku => (((try dsimp only [ktrTop, Around.deeper, Around.in1] at *); (first | lia | omega)))); k_whole; intro mq_tp mq_hp mq_tkp mq_Fp mq_Np; (try dsimp only); (try k_sweep); (try k_fold)))))))) | ((with_reducible show wpAny _ _ (newTuple _) _ _ _); ((k_here; k_dflt (refine' kup_newTuple ?hqF ?hqN ?_ ?hqz; (case hqF | hqN => k_asm); (case hqz => kmk_size)); intro _ _ _ _ hq_l1; (try k_lt hq_l1); (try k_sweep)))) | ((k_here; (with_reducible show wpAny _ _ (call (Value.type _) [Value.ref _]) _ _ _); k_dflt (refine' kde_tupleOf ?hqk1 ?hqk2 ?hqk3 ?hqk4 ?hqk5 ?_; (case hqk1 | hqk2 => k_asm); (case hqk3 => exact News.isList (by k_asm) (by k_mem)); (case hqk4 => (simp only [List.size_toArray]; (first | lia | omega))); (case hqk5 => exact rfl); k_whole); intro _ _ _ _ hq_l1; (try k_lt hq_l1); (try k_sweep))) | ((with_reducible show wpAny _ _ (call (Value.builtin _) _) _ _ _); (first | ((k_here; (with_reducible show wpAny _ _ (call (Value.builtin "len") [Value.ref _]) _ _ _); k_dflt (refine' len_tupM ?hqk1 ?hqk2 ?hqk3 ?hqk4 ?_; (case hqk1 => k_asm); (case hqk2 => k_mem); (case hqk3 => first | exact IntsAre.length (by assumption) | assumption); (case hqk4 => (first | lia | omega))); k_whole)) | ((k_here; (with_reducible show wpAny _ _ (call (Value.builtin "len") [Value.ref _]) _ _ _); k_dflt (refine' len_listM ?hqk1 ?hqk2 ?hqk3 ?hqk4 ?_; (case hqk1 => k_asm); (case hqk2 => k_mem); (case hqk3 => first | exact IntsAre.length (by assumption) | assumption); (case hqk4 => (first | lia | omega))); k_whole)))))) | ((fail_if_success with_reducible (first | show wpAny _ _ (exec (Stmt.For _ _ _ _ _) _) _ _ _ | show wpAny _ _ (pyIter _) _ _ _ | show wpAny _ _ (exec (Stmt.Assign _ (Expr.ListComp _ _ _ _) _) _) _ _ _ | show wpAny _ _ (eval (Expr.ListComp _ _ _ _) _) _ _ _ | show LCg.CompSrc _ _ _ _ _ _ _ _ _ _ _ _ _ _ | show LCg.CompEnd _ _ _ _ _ _ _ _ _ _ _ _ _ _ | show LCt.CompSrcT _ _ _ _ _ _ _ _ _ _ _ _ _ _ _)); first | walk1 | (dsimp only; walk1)) | (leave1; try dsimp only) | fail))
            · exact iv_t (by (first | lia | omega)) rfl
            · exact iv_f (by (first | lia | omega)) rfl
          intro tkv tv
          try dsimp only
          try k_fold
          (repeat' (first | (k_unfold; (try dsimp only)) | (k_end; wrow_close) | ((with_reducible show wpAny _ _ (execs (_ :: _) _) _ _ (Shared.mk _ _ _ (_ + 1) _)); (with_reducible refine toks_cut ?_); intro _) | ((first | ((with_reducible show wpAny _ _ (subscriptTail _ _ (Value.ref _) _) _ _ _); (first | ((k_here; (with_reducible show wpAny _ _ (subscriptTail _ _ (Value.ref _) (Value.int _ _)) _ _ _); k_dflt (refine' item_refM ?hqk1 ?hqk2 ?hqk4 ?hqk5 ?hqk6 ?_; (case hqk1 => k_asm); (case hqk2 => k_mem); (case hqk4 | hqk5 => (first | lia | omega)); (case hqk6 => first | assumption | exact rfl)); k_whole)) | ((k_here; (with_reducible show wpAny _ _ (subscriptTail _ _ (Value.ref _) (Value.int _ _)) _ _ _); k_dflt (refine' dget ?hqk1 ?hqk2 ?hqk3 ?hqk4 ?hqk5 ?_; (case hqk1 => k_asm); (case hqk2 => k_mem); (case hqk3 | hqk4 => assumption); (case hqk5 => first | assumption | (apply_assumption; (first | lia | omega)))); k_whole; intro _)) | ((k_here; (with_reducible show wpAny _ _ (subscriptTail _ _ (Value.ref _) (Value.int _ _)) _ _ _); k_dflt (refine' item_listM ?hqk1 ?hqk2 ?hqk3 ?hqk4 ?hqk5 ?hqk6 ?_; (case hqk1 => k_asm); (case hqk2 => k_mem); (case hqk3 => assumption); (case hqk4 | hqk5 | hqk6 => (first | lia | omega))); k_whole; intro _)) | ((k_here; (with_reducible show wpAny _ _ (subscriptTail _ _ (Value.ref _) (Value.int _ _)) _ _ _); k_dflt (refine' item_tupM ?hqk1 ?hqk2 ?hqk3 ?hqk4 ?hqk5 ?hqk6 ?_; (case hqk1 => k_asm); (case hqk2 => k_mem); (case hqk3 => assumption); (case hqk4 | hqk5 | hqk6 => (first | lia | omega))); k_whole; intro _)))) | ((k_here; (with_reducible show wpAny _ _ (setItem (Value.ref _) (Value.int _ _) (Value.int _ _)) _ _ _); k_dflt (refine' dset ?hqF ?hqN ?hqU ?hqd ?hqz ?_; (case hqF | hqN => k_asm); (case hqU => k_updF); (case hqd => assumption); (case hqz => (first | lia | omega))); intro _ _ _ hq_Np _; (try dsimp only at hq_Np); (try k_sweep))) | ((with_reducible show wpAny _ _ (call (Value.ref _) _) _ _ _); (first | ((k_here; (with_reducible show wpAny _ _ (call (Value.ref 115) _) _ _ _); k_dflt (refine' ct_useI (ipow_ct _ _ _ _ _ _ _ _ ?hqh1 ?hqh2 ?hqh3) ?kB ?kF ?kX ?kN ?kT ?kk ?kP ?kd ?ku ?_; (case hqh1 => first | assumption | (first | lia | omega)); (case hqh2 | hqh3 => (first | lia | omega)); (((case kB | kF | kX | kN | kT => k_asm); (case kk => first | exact rfl | assumption); (case kP => exact trivial); (case kd | ku => (((try dsimp only [ktrTop, Around.deeper, Around.in1] at *); (first | lia | omega)))); k_whole; intro mq_tp mq_hp mq_tkp mq_Fp mq_Np; (try dsimp only); (try k_sweep); (try k_fold)))))) | ((k_here; (with_reducible show wpAny _ _ (call (Value.ref 94) _) _ _ _); k_dflt (refine' ct_useI (mod_ct _ _ _ _ _ _ _ _ ?hqhm) ?kB ?kF ?kX ?kN ?kT ?kk ?kP ?kd ?ku ?_; (case hqhm => first | assumption | (first | lia | omega)); (((case kB | kF | kX | kN | kT => k_asm); (case kk => first | exact rfl | assumption); (case kP => exact trivial); (case kd | ku => (((try dsimp only [ktrTop, Around.deeper, Around.in1] at *); (first | lia | omega)))); k_whole; intro mq_tp mq_hp mq_tkp mq_Fp mq_Np; (try dsimp only); (try k_sweep); (try k_fold)))))) | ((k_here; (with_reducible show wpAny _ _ (call (Value.ref 101) _) _ _ _); k_dflt (refine' ct_useI (mul_ct _ _ _ _ _ _ _ _ ?hqhm) ?kB ?kF ?kX ?kN ?kT ?kk ?kP ?kd ?ku ?_; (case hqhm => first | assumption | (apply_assumption; (first | lia | omega))); (((case kB | kF | kX | kN | kT => k_asm); (case kk => first | exact rfl | assumption); (case kP => exact trivial); (case kd | ku => (((try dsimp only [ktrTop, Around.deeper, Around.in1] at *); (first | lia | omega)))); k_whole; intro mq_tp mq_hp mq_tkp mq_Fp mq_Np; (try dsimp only); (try k_sweep); (try k_fold)))))) | ((k_here; (with_reducible show wpAny _ _ (call (Value.ref 87) _) _ _ _); k_dflt (refine' ct_useI (add_ct _ _ _ _ _ _ _ _) ?kB ?kF ?kX ?kN ?kT ?kk ?kP ?kd ?ku ?_; (((case kB | kF | kX | kN | kT => k_asm); (case kk => first | exact rfl | assumption); (case kP => exact trivial); (case kd | ku => (((try dsimp only [ktrTop, Around.deeper, Around.in1] at *); (first | lia | omega)))); k_whole; intro mq_tp mq_hp mq_tkp mq_Fp mq_Np; (try dsimp only); (try k_sweep); (try k_fold)))))) | ((k_here; (with_reducible show wpAny _ _ (call (Value.ref 108) _) _ _ _); k_dflt (refine' ct_useI (countOf_ct _ _ _ _ _ _ _ _ _ _) ?kB ?kF ?kX ?kN ?kT ?kk ?kP ?kd ?ku ?_; (((case kB | kF | kX | kN | kT => k_asm); (case kk => first | exact rfl | assumption); (case kP => (first | ((refine ⟨?_, by k_mem⟩; first | assumption | exact IsWord.mono (by assumption) (by (first | exact fun _ h => h | (intro p hp; k_ownIn) | (intro p hp; exact List.mem_append.mpr (.inl hp)) | (intro p hp; exact List.mem_cons_of_mem _ (List.mem_append.mpr (.inl hp))) | (intro p hp; simp only [List.mem_append, List.mem_cons] at *; simp [hp]))))) | (first | exact trivial | assumption | exact Ws.mono (by assumption) (by (first | exact fun _ h => h | (intro p hp; k_ownIn) | (intro p hp; exact List.mem_append.mpr (.inl hp)) | (intro p hp; exact List.mem_cons_of_mem _ (List.mem_append.mpr (.inl hp))) | (intro p hp; simp only [List.mem_append, List.mem_cons] at *; simp [hp])))))); (case kd | ku => (((try dsimp only [ktrTop, Around.deeper, Around.in1] at *); (first | lia | omega)))); k_whole; intro mq_tp mq_hp mq_tkp mq_Fp mq_Np; (try dsimp only); (try k_sweep); (try k_fold)))))))) | ((with_reducible show wpAny _ _ (newTuple _) _ _ _); ((k_here; k_dflt (refine' kup_newTuple ?hqF ?hqN ?_ ?hqz; (case hqF | hqN => k_asm); (case hqz => kmk_size)); intro _ _ _ _ hq_l1; (try k_lt hq_l1); (try k_sweep)))) | ((k_here; (with_reducible show wpAny _ _ (call (Value.type _) [Value.ref _]) _ _ _); k_dflt (refine' kde_tupleOf ?hqk1 ?hqk2 ?hqk3 ?hqk4 ?hqk5 ?_; (case hqk1 | hqk2 => k_asm); (case hqk3 => exact News.isList (by k_asm) (by k_mem)); (case hqk4 => (simp only [List.size_toArray]; (first | lia | omega))); (case hqk5 => exact rfl); k_whole); intro _ _ _ _ hq_l1; (try k_lt hq_l1); (try k_sweep))) | ((with_reducible show wpAny _ _ (call (Value.builtin _) _) _ _ _); (first | ((k_here; (with_reducible show wpAny _ _ (call (Value.builtin "len") [Value.ref _]) _ _ _); k_dflt (refine' len_tupM ?hqk1 ?hqk2 ?hqk3 ?hqk4 ?_; (case hqk1 => k_asm); (case hqk2 => k_mem); (case hqk3 => first | exact IntsAre.length (by assumption) | assumption); (case hqk4 => (first | lia | omega))); k_whole)) | ((k_here; (with_reducible show wpAny _ _ (call (Value.builtin "len") [Value.ref _]) _ _ _); k_dflt (refine' len_listM ?hqk1 ?hqk2 ?hqk3 ?hqk4 ?_; (case hqk1 => k_asm); (case hqk2 => k_mem); (case hqk3 => first | exact IntsAre.length (by assumption) | assumption); (case hqk4 => (first | lia | omega))); k_whole)))))) | ((fail_if_success with_reducible (first | show wpAny _ _ (exec (Stmt.If _ _ _ _) _) _ _ _ | show wpAny _ _ (eval (Expr.IfExp _ _ _ _) _) _ _ _ | show wpAny _ _ (exec (Stmt.For _ _ _ _ _) _) _ _ _ | show wpAny _ _ (pyIter _) _ _ _ | show wpAny _ _ (exec (Stmt.Assign _ (Expr.ListComp _ _ _ _) _) _) _ _ _ | show wpAny _ _ (eval (Expr.ListComp _ _ _ _) _) _ _ _ | show LCg.CompSrc _ _ _ _ _ _ _ _ _ _ _ _ _ _ | show LCg.CompEnd _ _ _ _ _ _ _ _ _ _ _ _ _ _ | show LCt.CompSrcT _ _ _ _ _ _ _ _ _ _ _ _ _ _ _)); first | walk1 | (dsimp only; walk1)) | (leave1; try dsimp only) | fail))
          rename Fr _ _ _ _ => lF
          rename News _ _ _ _ => lN
          refine if_int lF lN (Str.ofString "worth") ((if (0 + (i : Int)) * 64 + (0 + (j : Int)) * 8 + (0 + (k : Int)) = 0 then 1 else 0) + (if 0 < i then q ^ (j + k) * tab q (i - 1) j k else 0)) ?_ ?_
          · (repeat' (first | (k_unfold; (try dsimp only)) | (k_end; wrow_close) | ((with_reducible show wpAny _ _ (execs (_ :: _) _) _ _ (Shared.mk _ _ _ (_ + 1) _)); (with_reducible refine toks_cut ?_); intro _) | ((first | ((with_reducible show wpAny _ _ (subscriptTail _ _ (Value.ref _) _) _ _ _); (first | ((k_here; (with_reducible show wpAny _ _ (subscriptTail _ _ (Value.ref _) (Value.int _ _)) _ _ _); k_dflt (refine' item_refM ?hqk1 ?hqk2 ?hqk4 ?hqk5 ?hqk6 ?_; (case hqk1 => k_asm); (case hqk2 => k_mem); (case hqk4 | hqk5 => (first | lia | omega)); (case hqk6 => first | assumption | exact rfl)); k_whole)) | ((k_here; (with_reducible show wpAny _ _ (subscriptTail _ _ (Value.ref _) (Value.int _ _)) _ _ _); k_dflt (refine' dget ?hqk1 ?hqk2 ?hqk3 ?hqk4 ?hqk5 ?_; (case hqk1 => k_asm); (case hqk2 => k_mem); (case hqk3 | hqk4 => assumption); (case hqk5 => first | assumption | (apply_assumption; (first | lia | omega)))); k_whole; intro _)) | ((k_here; (with_reducible show wpAny _ _ (subscriptTail _ _ (Value.ref _) (Value.int _ _)) _ _ _); k_dflt (refine' item_listM ?hqk1 ?hqk2 ?hqk3 ?hqk4 ?hqk5 ?hqk6 ?_; (case hqk1 => k_asm); (case hqk2 => k_mem); (case hqk3 => assumption); (case hqk4 | hqk5 | hqk6 => (first | lia | omega))); k_whole; intro _)) | ((k_here; (with_reducible show wpAny _ _ (subscriptTail _ _ (Value.ref _) (Value.int _ _)) _ _ _); k_dflt (refine' item_tupM ?hqk1 ?hqk2 ?hqk3 ?hqk4 ?hqk5 ?hqk6 ?_; (case hqk1 => k_asm); (case hqk2 => k_mem); (case hqk3 => assumption); (case hqk4 | hqk5 | hqk6 => (first | lia | omega))); k_whole; intro _)))) | ((k_here; (with_reducible show wpAny _ _ (setItem (Value.ref _) (Value.int _ _) (Value.int _ _)) _ _ _); k_dflt (refine' dset ?hqF ?hqN ?hqU ?hqd ?hqz ?_; (case hqF | hqN => k_asm); (case hqU => k_updF); (case hqd => assumption); (case hqz => (first | lia | omega))); intro _ _ _ hq_Np _; (try dsimp only at hq_Np); (try k_sweep))) | ((with_reducible show wpAny _ _ (call (Value.ref _) _) _ _ _); (first | ((k_here; (with_reducible show wpAny _ _ (call (Value.ref 115) _) _ _ _); k_dflt (refine' ct_useI (ipow_ct _ _ _ _ _ _ _ _ ?hqh1 ?hqh2 ?hqh3) ?kB ?kF ?kX ?kN ?kT ?kk ?kP ?kd ?ku ?_; (case hqh1 => first | assumption | (first | lia | omega)); (case hqh2 | hqh3 => (first | lia | omega)); (((case kB | kF | kX | kN | kT => k_asm); (case kk => first | exact rfl | assumption); (case kP => exact trivial); (case kd | ku => (((try dsimp only [ktrTop, Around.deeper, Around.in1] at *); (first | lia | omega)))); k_whole; intro mq_tp mq_hp mq_tkp mq_Fp mq_Np; (try dsimp only); (try k_sweep); (try k_fold)))))) | ((k_here; (with_reducible show wpAny _ _ (call (Value.ref 94) _) _ _ _); k_dflt (refine' ct_useI (mod_ct _ _ _ _ _ _ _ _ ?hqhm) ?kB ?kF ?kX ?kN ?kT ?kk ?kP ?kd ?ku ?_; (case hqhm => first | assumption | (first | lia | omega)); (((case kB | kF | kX | kN | kT => k_asm); (case kk => first | exact rfl | assumption); (case kP => exact trivial); (case kd | ku => (((try dsimp only [ktrTop, Around.deeper, Around.in1] at *); (first | lia | omega)))); k_whole; intro mq_tp mq_hp mq_tkp mq_Fp mq_Np; (try dsimp only); (try k_sweep); (try k_fold)))))) | ((k_here; (with_reducible show wpAny _ _ (call (Value.ref 101) _) _ _ _); k_dflt (refine' ct_useI (mul_ct _ _ _ _ _ _ _ _ ?hqhm) ?kB ?kF ?kX ?kN ?kT ?kk ?kP ?kd ?ku ?_; (case hqhm => first | assumption | (apply_assumption; (first | lia | omega))); (((case kB | kF | kX | kN | kT => k_asm); (case kk => first | exact rfl | assumption); (case kP => exact trivial); (case kd | ku => (((try dsimp only [ktrTop, Around.deeper, Around.in1] at *); (first | lia | omega)))); k_whole; intro mq_tp mq_hp mq_tkp mq_Fp mq_Np; (try dsimp only); (try k_sweep); (try k_fold)))))) | ((k_here; (with_reducible show wpAny _ _ (call (Value.ref 87) _) _ _ _); k_dflt (refine' ct_useI (add_ct _ _ _ _ _ _ _ _) ?kB ?kF ?kX ?kN ?kT ?kk ?kP ?kd ?ku ?_; (((case kB | kF | kX | kN | kT => k_asm); (case kk => first | exact rfl | assumption); (case kP => exact trivial); (case kd | ku => (((try dsimp only [ktrTop, Around.deeper, Around.in1] at *); (first | lia | omega)))); k_whole; intro mq_tp mq_hp mq_tkp mq_Fp mq_Np; (try dsimp only); (try k_sweep); (try k_fold)))))) | ((k_here; (with_reducible show wpAny _ _ (call (Value.ref 108) _) _ _ _); k_dflt (refine' ct_useI (countOf_ct _ _ _ _ _ _ _ _ _ _) ?kB ?kF ?kX ?kN ?kT ?kk ?kP ?kd ?ku ?_; (((case kB | kF | kX | kN | kT => k_asm); (case kk => first | exact rfl | assumption); (case kP => (first | ((refine ⟨?_, by k_mem⟩; first | assumption | exact IsWord.mono (by assumption) (by (first | exact fun _ h => h | (intro p hp; k_ownIn) | (intro p hp; exact List.mem_append.mpr (.inl hp)) | (intro p hp; exact List.mem_cons_of_mem _ (List.mem_append.mpr (.inl hp))) | (intro p hp; simp only [List.mem_append, List.mem_cons] at *; simp [hp]))))) | (first | exact trivial | assumption | exact Ws.mono (by assumption) (by (first | exact fun _ h => h | (intro p hp; k_ownIn) | (intro p hp; exact List.mem_append.mpr (.inl hp)) | (intro p hp; exact List.mem_cons_of_mem _ (List.mem_append.mpr (.inl hp))) | (intro p hp; simp only [List.mem_append, List.mem_cons] at *; simp [hp])))))); (case kd | ku => (((try dsimp only [ktrTop, Around.deeper, Around.in1] at *); (first | lia | omega)))); k_whole; intro mq_tp mq_hp mq_tkp mq_Fp mq_Np; (try dsimp only); (try k_sweep); (try k_fold)))))))) | ((with_reducible show wpAny _ _ (newTuple _) _ _ _); ((k_here; k_dflt (refine' kup_newTuple ?hqF ?hqN ?_ ?hqz; (case hqF | hqN => k_asm); (case hqz => kmk_size)); intro _ _ _ _ hq_l1; (try k_lt hq_l1); (try k_sweep)))) | ((k_here; (with_reducible show wpAny _ _ (call (Value.type _) [Value.ref _]) _ _ _); k_dflt (refine' kde_tupleOf ?hqk1 ?hqk2 ?hqk3 ?hqk4 ?hqk5 ?_; (case hqk1 | hqk2 => k_asm); (case hqk3 => exact News.isList (by k_asm) (by k_mem)); (case hqk4 => (simp only [List.size_toArray]; (first | lia | omega))); (case hqk5 => exact rfl); k_whole); intro _ _ _ _ hq_l1; (try k_lt hq_l1); (try k_sweep))) | ((with_reducible show wpAny _ _ (call (Value.builtin _) _) _ _ _); (first | ((k_here; (with_reducible show wpAny _ _ (call (Value.builtin "len") [Value.ref _]) _ _ _); k_dflt (refine' len_tupM ?hqk1 ?hqk2 ?hqk3 ?hqk4 ?_; (case hqk1 => k_asm); (case hqk2 => k_mem); (case hqk3 => first | exact IntsAre.length (by assumption) | assumption); (case hqk4 => (first | lia | omega))); k_whole)) | ((k_here; (with_reducible show wpAny _ _ (call (Value.builtin "len") [Value.ref _]) _ _ _); k_dflt (refine' len_listM ?hqk1 ?hqk2 ?hqk3 ?hqk4 ?_; (case hqk1 => k_asm); (case hqk2 => k_mem); (case hqk3 => first | exact IntsAre.length (by assumption) | assumption); (case hqk4 => (first | lia | omega))); k_whole)))))) | ((fail_if_success with_reducible (first | show wpAny _ _ (exec (Stmt.For _ _ _ _ _) _) _ _ _ | show wpAny _ _ (pyIter _) _ _ _ | show wpAny _ _ (exec (Stmt.Assign _ (Expr.ListComp _ _ _ _) _) _) _ _ _ | show wpAny _ _ (eval (Expr.ListComp _ _ _ _) _) _ _ _ | show LCg.CompSrc _ _ _ _ _ _ _ _ _ _ _ _ _ _ | show LCg.CompEnd _ _ _ _ _ _ _ _ _ _ _ _ _ _ | show LCt.CompSrcT _ _ _ _ _ _ _ _ _ _ _ _ _ _ _)); first | walk1 | (dsimp only; walk1)) | (leave1; try dsimp only) | fail))
            · rename Fr _ _ _ _ => lF2
              rename News _ _ _ _ => lN2
              exact if_end lF2 lN2 rfl rfl (by rw [e1, if_pos (show 0 < i by (first | lia | omega))]) (fun y hy => if_neg hy)
            · exact if_end lF lN rfl rfl (by rw [if_neg (show ¬ 0 < i by (first | lia | omega)), Int.add_zero]) (fun y hy => rfl)
          clear lF lN
          intro h5 tk5 u5 lF lN
          try dsimp only
          try k_fold
          (repeat' (first | (k_unfold; (try dsimp only)) | (k_end; wrow_close) | ((with_reducible show wpAny _ _ (execs (_ :: _) _) _ _ (Shared.mk _ _ _ (_ + 1) _)); (with_reducible refine toks_cut ?_); intro _) | ((first | ((with_reducible show wpAny _ _ (subscriptTail _ _ (Value.ref _) _) _ _ _); (first | ((k_here; (with_reducible show wpAny _ _ (subscriptTail _ _ (Value.ref _) (Value.int _ _)) _ _ _); k_dflt (refine' item_refM ?hqk1 ?hqk2 ?hqk4 ?hqk5 ?hqk6 ?_; (case hqk1 => k_asm); (case hqk2 => k_mem); (case hqk4 | hqk5 => (first | lia | omega)); (case hqk6 => first | assumption | exact rfl)); k_whole)) | ((k_here; (with_reducible show wpAny _ _ (subscriptTail _ _ (Value.ref _) (Value.int _ _)) _ _ _); k_dflt (refine' dget ?hqk1 ?hqk2 ?hqk3 ?hqk4 ?hqk5 ?_; (case hqk1 => k_asm); (case hqk2 => k_mem); (case hqk3 | hqk4 => assumption); (case hqk5 => first | assumption | (apply_assumption; (first | lia | omega)))); k_whole; intro _)) | ((k_here; (with_reducible show wpAny _ _ (subscriptTail _ _ (Value.ref _) (Value.int _ _)) _ _ _); k_dflt (refine' item_listM ?hqk1 ?hqk2 ?hqk3 ?hqk4 ?hqk5 ?hqk6 ?_; (case hqk1 => k_asm); (case hqk2 => k_mem); (case hqk3 => assumption); (case hqk4 | hqk5 | hqk6 => (first | lia | omega))); k_whole; intro _)) | ((k_here; (with_reducible show wpAny _ _ (subscriptTail _ _ (Value.ref _) (Value.int _ _)) _ _ _); k_dflt (refine' item_tupM ?hqk1 ?hqk2 ?hqk3 ?hqk4 ?hqk5 ?hqk6 ?_; (case hqk1 => k_asm); (case hqk2 => k_mem); (case hqk3 => assumption); (case hqk4 | hqk5 | hqk6 => (first | lia | omega))); k_whole; intro _)))) | ((k_here; (with_reducible show wpAny _ _ (setItem (Value.ref _) (Value.int _ _) (Value.int _ _)) _ _ _); k_dflt (refine' dset ?hqF ?hqN ?hqU ?hqd ?hqz ?_; (case hqF | hqN => k_asm); (case hqU => k_updF); (case hqd => assumption); (case hqz => (first | lia | omega))); intro _ _ _ hq_Np _; (try dsimp only at hq_Np); (try k_sweep))) | ((with_reducible show wpAny _ _ (call (Value.ref _) _) _ _ _); (first | ((k_here; (with_reducible show wpAny _ _ (call (Value.ref 115) _) _ _ _); k_dflt (refine' ct_useI (ipow_ct _ _ _ _ _ _ _ _ ?hqh1 ?hqh2 ?hqh3) ?kB ?kF ?kX ?kN ?kT ?kk ?kP ?kd ?ku ?_; (case hqh1 => first | assumption | (first | lia | omega)); (case hqh2 | hqh3 => (first | lia | omega)); (((case kB | kF | kX | kN | kT => k_asm); (case kk => first | exact rfl | assumption); (case kP => exact trivial); (case kd | ku => (((try dsimp only [ktrTop, Around.deeper, Around.in1] at *); (first | lia | omega)))); k_whole; intro mq_tp mq_hp mq_tkp mq_Fp mq_Np; (try dsimp only); (try k_sweep); (try k_fold)))))) | ((k_here; (with_reducible show wpAny _ _ (call (Value.ref 94) _) _ _ _); k_dflt (refine' ct_useI (mod_ct _ _ _ _ _ _ _ _ ?hqhm) ?kB ?kF ?kX ?kN ?kT ?kk ?kP ?kd ?ku ?_; (case hqhm => first | assumption | (first | lia | omega)); (((case kB | kF | kX | kN | kT => k_asm); (case kk => first | exact rfl | assumption); (case kP => exact trivial); (case kd | ku => (((try dsimp only [ktrTop, Around.deeper, Around.in1] at *); (first | lia | omega)))); k_whole; intro mq_tp mq_hp mq_tkp mq_Fp mq_Np; (try dsimp only); (try k_sweep); (try k_fold)))))) | ((k_here; (with_reducible show wpAny _ _ (call (Value.ref 101) _) _ _ _); k_dflt (refine' ct_useI (mul_ct _ _ _ _ _ _ _ _ ?hqhm) ?kB ?kF ?kX ?kN ?kT ?kk ?kP ?kd ?ku ?_; (case hqhm => first | assumption | (apply_assumption; (first | lia | omega))); (((case kB | kF | kX | kN | kT => k_asm); (case kk => first | exact rfl | assumption); (case kP => exact trivial); (case kd | ku => (((try dsimp only [ktrTop, Around.deeper, Around.in1] at *); (first | lia | omega)))); k_whole; intro mq_tp mq_hp mq_tkp mq_Fp mq_Np; (try dsimp only); (try k_sweep); (try k_fold)))))) | ((k_here; (with_reducible show wpAny _ _ (call (Value.ref 87) _) _ _ _); k_dflt (refine' ct_useI (add_ct _ _ _ _ _ _ _ _) ?kB ?kF ?kX ?kN ?kT ?kk ?kP ?kd ?ku ?_; (((case kB | kF | kX | kN | kT => k_asm); (case kk => first | exact rfl | assumption); (case kP => exact trivial); (case kd | ku => (((try dsimp only [ktrTop, Around.deeper, Around.in1] at *); (first | lia | omega)))); k_whole; intro mq_tp mq_hp mq_tkp mq_Fp mq_Np; (try dsimp only); (try k_sweep); (try k_fold)))))) | ((k_here; (with_reducible show wpAny _ _ (call (Value.ref 108) _) _ _ _); k_dflt (refine' ct_useI (countOf_ct _ _ _ _ _ _ _ _ _ _) ?kB ?kF ?kX ?kN ?kT ?kk ?kP ?kd ?ku ?_; (((case kB | kF | kX | kN | kT => k_asm); (case kk => first | exact rfl | assumption); (case kP => (first | ((refine ⟨?_, by k_mem⟩; first | assumption | exact IsWord.mono (by assumption) (by (first | exact fun _ h => h | (intro p hp; k_ownIn) | (intro p hp; exact List.mem_append.mpr (.inl hp)) | (intro p hp; exact List.mem_cons_of_mem _ (List.mem_append.mpr (.inl hp))) | (intro p hp; simp only [List.mem_append, List.mem_cons] at *; simp [hp]))))) | (first | exact trivial | assumption | exact Ws.mono (by assumption) (by (first | exact fun _ h => h | (intro p hp; k_ownIn) | (intro p hp; exact List.mem_append.mpr (.inl hp)) | (intro p hp; exact List.mem_cons_of_mem _ (List.mem_append.mpr (.inl hp))) | (intro p hp; simp only [List.mem_append, List.mem_cons] at *; simp [hp])))))); (case kd | ku => (((try dsimp only [ktrTop, Around.deeper, Around.in1] at *); (first | lia | omega)))); k_whole; intro mq_tp mq_hp mq_tkp mq_Fp mq_Np; (try dsimp only); (try k_sweep); (try k_fold)))))))) | ((with_reducible show wpAny _ _ (newTuple _) _ _ _); ((k_here; k_dflt (refine' kup_newTuple ?hqF ?hqN ?_ ?hqz; (case hqF | hqN => k_asm); (case hqz => kmk_size)); intro _ _ _ _ hq_l1; (try k_lt hq_l1); (try k_sweep)))) | ((k_here; (with_reducible show wpAny _ _ (call (Value.type _) [Value.ref _]) _ _ _); k_dflt (refine' kde_tupleOf ?hqk1 ?hqk2 ?hqk3 ?hqk4 ?hqk5 ?_; (case hqk1 | hqk2 => k_asm); (case hqk3 => exact News.isList (by k_asm) (by k_mem)); (case hqk4 => (simp only [List.size_toArray]; (first | lia | omega))); (case hqk5 => exact rfl); k_whole); intro _ _ _ _ hq_l1; (try k_lt hq_l1); (try k_sweep))) | ((with_reducible show wpAny _ _ (call (Value.builtin _) _) _ _ _); (first | ((k_here; (with_reducible show wpAny _ _ (call (Value.builtin "len") [Value.ref _]) _ _ _); k_dflt (refine' len_tupM ?hqk1 ?hqk2 ?hqk3 ?hqk4 ?_; (case hqk1 => k_asm); (case hqk2 => k_mem); (case hqk3 => first | exact IntsAre.length (by assumption) | assumption); (case hqk4 => (first | lia | omega))); k_whole)) | ((k_here; (with_reducible show wpAny _ _ (call (Value.builtin "len") [Value.ref _]) _ _ _); k_dflt (refine' len_listM ?hqk1 ?hqk2 ?hqk3 ?hqk4 ?_; (case hqk1 => k_asm); (case hqk2 => k_mem); (case hqk3 => first | exact IntsAre.length (by assumption) | assumption); (case hqk4 => (first | lia | omega))); k_whole)))))) | ((fail_if_success with_reducible (first | show wpAny _ _ (exec (Stmt.If _ _ _ _) _) _ _ _ | show wpAny _ _ (eval (Expr.IfExp _ _ _ _) _) _ _ _ | show wpAny _ _ (exec (Stmt.For _ _ _ _ _) _) _ _ _ | show wpAny _ _ (pyIter _) _ _ _ | show wpAny _ _ (exec (Stmt.Assign _ (Expr.ListComp _ _ _ _) _) _) _ _ _ | show wpAny _ _ (eval (Expr.ListComp _ _ _ _) _) _ _ _ | show LCg.CompSrc _ _ _ _ _ _ _ _ _ _ _ _ _ _ | show LCg.CompEnd _ _ _ _ _ _ _ _ _ _ _ _ _ _ | show LCt.CompSrcT _ _ _ _ _ _ _ _ _ _ _ _ _ _ _)); first | walk1 | (dsimp only; walk1)) | (leave1; try dsimp only) | fail))
          refine if_int lF lN (Str.ofString "worth") ((if (0 + (i : Int)) * 64 + (0 + (j : Int)) * 8 + (0 + (k : Int)) = 0 then 1 else 0) + (if 0 < i then q ^ (j + k) * tab q (i - 1) j k else 0) + (if 0 < j then q ^ k * tab q i (j - 1) k else 0)) ?_ ?_
          · (repeat' (first | (k_unfold; (try dsimp only)) | (k_end; wrow_close) | ((with_reducible show wpAny _ _ (execs (_ :: _) _) _ _ (Shared.mk _ _ _ (_ + 1) _)); (with_reducible refine toks_cut ?_); intro _) | ((first | ((with_reducible show wpAny _ _ (subscriptTail _ _ (Value.ref _) _) _ _ _); (first | ((k_here; (with_reducible show wpAny _ _ (subscriptTail _ _ (Value.ref _) (Value.int _ _)) _ _ _); k_dflt (refine' item_refM ?hqk1 ?hqk2 ?hqk4 ?hqk5 ?hqk6 ?_; (case hqk1 => k_asm); (case hqk2 => k_mem); (case hqk4 | hqk5 => (first | lia | omega)); (case hqk6 => first | assumption | exact rfl)); k_whole)) | ((k_here; (with_reducible show wpAny _ _ (subscriptTail _ _ (Value.ref _) (Value.int _ _)) _ _ _); k_dflt (refine' dget ?hqk1 ?hqk2 ?hqk3 ?hqk4 ?hqk5 ?_; (case hqk1 => k_asm); (case hqk2 => k_mem); (case hqk3 | hqk4 => assumption); (case hqk5 => first | assumption | (apply_assumption; (first | lia | omega)))); k_whole; intro _)) | ((k_here; (with_reducible show wpAny _ _ (subscriptTail _ _ (Value.ref _) (Value.int _ _)) _ _ _); k_dflt (refine' item_listM ?hqk1 ?hqk2 ?hqk3 ?hqk4 ?hqk5 ?hqk6 ?_; (case hqk1 => k_asm); (case hqk2 => k_mem); (case hqk3 => assumption); (case hqk4 | hqk5 | hqk6 => (first | lia | omega))); k_whole; intro _)) | ((k_here; (with_reducible show wpAny _ _ (subscriptTail _ _ (Value.ref _) (Value.int _ _)) _ _ _); k_dflt (refine' item_tupM ?hqk1 ?hqk2 ?hqk3 ?hqk4 ?hqk5 ?hqk6 ?_; (case hqk1 => k_asm); (case hqk2 => k_mem); (case hqk3 => assumption); (case hqk4 | hqk5 | hqk6 => (first | lia | omega))); k_whole; intro _)))) | ((k_here; (with_reducible show wpAny _ _ (setItem (Value.ref _) (Value.int _ _) (Value.int _ _)) _ _ _); k_dflt (refine' dset ?hqF ?hqN ?hqU ?hqd ?hqz ?_; (case hqF | hqN => k_asm); (case hqU => k_updF); (case hqd => assumption); (case hqz => (first | lia | omega))); intro _ _ _ hq_Np _; (try dsimp only at hq_Np); (try k_sweep))) | ((with_reducible show wpAny _ _ (call (Value.ref _) _) _ _ _); (first | ((k_here; (with_reducible show wpAny _ _ (call (Value.ref 115) _) _ _ _); k_dflt (refine' ct_useI (ipow_ct _ _ _ _ _ _ _ _ ?hqh1 ?hqh2 ?hqh3) ?kB ?kF ?kX ?kN ?kT ?kk ?kP ?kd ?ku ?_; (case hqh1 => first | assumption | (first | lia | omega)); (case hqh2 | hqh3 => (first | lia | omega)); (((case kB | kF | kX | kN | kT => k_asm); (case kk => first | exact rfl | assumption); (case kP => exact trivial); (case kd | ku => (((try dsimp only [ktrTop, Around.deeper, Around.in1] at *); (first | lia | omega)))); k_whole; intro mq_tp mq_hp mq_tkp mq_Fp mq_Np; (try dsimp only); (try k_sweep); (try k_fold)))))) | ((k_here; (with_reducible show wpAny _ _ (call (Value.ref 94) _) _ _ _); k_dflt (refine' ct_useI (mod_ct _ _ _ _ _ _ _ _ ?hqhm) ?kB ?kF ?kX ?kN ?kT ?kk ?kP ?kd ?ku ?_; (case hqhm => first | assumption | (first | lia | omega)); (((case kB | kF | kX | kN | kT => k_asm); (case kk => first | exact rfl | assumption); (case kP => exact trivial); (case kd | ku => (((try dsimp only [ktrTop, Around.deeper, Around.in1] at *); (first | lia | omega)))); k_whole; intro mq_tp mq_hp mq_tkp mq_Fp mq_Np; (try dsimp only); (try k_sweep); (try k_fold)))))) | ((k_here; (with_reducible show wpAny _ _ (call (Value.ref 101) _) _ _ _); k_dflt (refine' ct_useI (mul_ct _ _ _ _ _ _ _ _ ?hqhm) ?kB ?kF ?kX ?kN ?kT ?kk ?kP ?kd ?ku ?_; (case hqhm => first | assumption | (apply_assumption; (first | lia | omega))); (((case kB | kF | kX | kN | kT => k_asm); (case kk => first | exact rfl | assumption); (case kP => exact trivial); (case kd | ku => (((try dsimp only [ktrTop, Around.deeper, Around.in1] at *); (first | lia | omega)))); k_whole; intro mq_tp mq_hp mq_tkp mq_Fp mq_Np; (try dsimp only); (try k_sweep); (try k_fold)))))) | ((k_here; (with_reducible show wpAny _ _ (call (Value.ref 87) _) _ _ _); k_dflt (refine' ct_useI (add_ct _ _ _ _ _ _ _ _) ?kB ?kF ?kX ?kN ?kT ?kk ?kP ?kd ?ku ?_; (((case kB | kF | kX | kN | kT => k_asm); (case kk => first | exact rfl | assumption); (case kP => exact trivial); (case kd | ku => (((try dsimp only [ktrTop, Around.deeper, Around.in1] at *); (first | lia | omega)))); k_whole; intro mq_tp mq_hp mq_tkp mq_Fp mq_Np; (try dsimp only); (try k_sweep); (try k_fold)))))) | ((k_here; (with_reducible show wpAny _ _ (call (Value.ref 108) _) _ _ _); k_dflt (refine' ct_useI (countOf_ct _ _ _ _ _ _ _ _ _ _) ?kB ?kF ?kX ?kN ?kT ?kk ?kP ?kd ?ku ?_; (((case kB | kF | kX | kN | kT => k_asm); (case kk => first | exact rfl | assumption); (case kP => (first | ((refine ⟨?_, by k_mem⟩; first | assumption | exact IsWord.mono (by assumption) (by (first | exact fun _ h => h | (intro p hp; k_ownIn) | (intro p hp; exact List.mem_append.mpr (.inl hp)) | (intro p hp; exact List.mem_cons_of_mem _ (List.mem_append.mpr (.inl hp))) | (intro p hp; simp only [List.mem_append, List.mem_cons] at *; simp [hp]))))) | (first | exact trivial | assumption | exact Ws.mono (by assumption) (by (first | exact fun _ h => h | (intro p hp; k_ownIn) | (intro p hp; exact List.mem_append.mpr (.inl hp)) | (intro p hp; exact List.mem_cons_of_mem _ (List.mem_append.mpr (.inl hp))) | (intro p hp; simp only [List.mem_append, List.mem_cons] at *; simp [hp])))))); (case kd | ku => (((try dsimp only [ktrTop, Around.deeper, Around.in1] at *); (first | lia | omega)))); k_whole; intro mq_tp mq_hp mq_tkp mq_Fp mq_Np; (try dsimp only); (try k_sweep); (try k_fold)))))))) | ((with_reducible show wpAny _ _ (newTuple _) _ _ _); ((k_here; k_dflt (refine' kup_newTuple ?hqF ?hqN ?_ ?hqz; (case hqF | hqN => k_asm); (case hqz => kmk_size)); intro _ _ _ _ hq_l1; (try k_lt hq_l1); (try k_sweep)))) | ((k_here; (with_reducible show wpAny _ _ (call (Value.type _) [Value.ref _]) _ _ _); k_dflt (refine' kde_tupleOf ?hqk1 ?hqk2 ?hqk3 ?hqk4 ?hqk5 ?_; (case hqk1 | hqk2 => k_asm); (case hqk3 => exact News.isList (by k_asm) (by k_mem)); (case hqk4 => (simp only [List.size_toArray]; (first | lia | omega))); (case hqk5 => exact rfl); k_whole); intro _ _ _ _ hq_l1; (try k_lt hq_l1); (try k_sweep))) | ((with_reducible show wpAny _ _ (call (Value.builtin _) _) _ _ _); (first | ((k_here; (with_reducible show wpAny _ _ (call (Value.builtin "len") [Value.ref _]) _ _ _); k_dflt (refine' len_tupM ?hqk1 ?hqk2 ?hqk3 ?hqk4 ?_; (case hqk1 => k_asm); (case hqk2 => k_mem); (case hqk3 => first | exact IntsAre.length (by assumption) | assumption); (case hqk4 => (first | lia | omega))); k_whole)) | ((k_here; (with_reducible show wpAny _ _ (call (Value.builtin "len") [Value.ref _]) _ _ _); k_dflt (refine' len_listM ?hqk1 ?hqk2 ?hqk3 ?hqk4 ?_; (case hqk1 => k_asm); (case hqk2 => k_mem); (case hqk3 => first | exact IntsAre.length (by assumption) | assumption); (case hqk4 => (first | lia | omega))); k_whole)))))) | ((fail_if_success with_reducible (first | show wpAny _ _ (exec (Stmt.For _ _ _ _ _) _) _ _ _ | show wpAny _ _ (pyIter _) _ _ _ | show wpAny _ _ (exec (Stmt.Assign _ (Expr.ListComp _ _ _ _) _) _) _ _ _ | show wpAny _ _ (eval (Expr.ListComp _ _ _ _) _) _ _ _ | show LCg.CompSrc _ _ _ _ _ _ _ _ _ _ _ _ _ _ | show LCg.CompEnd _ _ _ _ _ _ _ _ _ _ _ _ _ _ | show LCt.CompSrcT _ _ _ _ _ _ _ _ _ _ _ _ _ _ _)); first | walk1 | (dsimp only; walk1)) | (leave1; try dsimp only) | fail))
            · rename Fr _ _ _ _ => lF2
              rename News _ _ _ _ => lN2
              exact if_end lF2 lN2 rfl rfl (by rw [e2, if_pos (show 0 < j by (first | lia | omega))]) (fun y hy => if_neg hy)
            · exact if_end lF lN rfl rfl (by rw [if_neg (show ¬ 0 < j by (first | lia | omega)), Int.add_zero]) (fun y hy => rfl)
          clear lF lN
          intro h6 tk6 u6 lF lN
          try dsimp only
          try k_fold
          (repeat' (first | (k_unfold; (try dsimp only)) | (k_end; wrow_close) | ((with_reducible show wpAny _ _ (execs (_ :: _) _) _ _ (Shared.mk _ _ _ (_ + 1) _)); (with_reducible refine toks_cut ?_); intro _) | ((first | ((with_reducible show wpAny _ _ (subscriptTail _ _ (Value.ref _) _) _ _ _); (first | ((k_here; (with_reducible show wpAny _ _ (subscriptTail _ _ (Value.ref _) (Value.int _ _)) _ _ _); k_dflt (refine' item_refM ?hqk1 ?hqk2 ?hqk4 ?hqk5 ?hqk6 ?_; (case hqk1 => k_asm); (case hqk2 => k_mem); (case hqk4 | hqk5 => (first | lia | omega)); (case hqk6 => first | assumption | exact rfl)); k_whole)) | ((k_here; (with_reducible show wpAny _ _ (subscriptTail _ _ (Value.ref _) (Value.int _ _)) _ _ _); k_dflt (refine' dget ?hqk1 ?hqk2 ?hqk3 ?hqk4 ?hqk5 ?_; (case hqk1 => k_asm); (case hqk2 => k_mem); (case hqk3 | hqk4 => assumption); (case hqk5 => first | assumption | (apply_assumption; (first | lia | omega)))); k_whole; intro _)) | ((k_here; (with_reducible show wpAny _ _ (subscriptTail _ _ (Value.ref _) (Value.int _ _)) _ _ _); k_dflt (refine' item_listM ?hqk1 ?hqk2 ?hqk3 ?hqk4 ?hqk5 ?hqk6 ?_; (case hqk1 => k_asm); (case hqk2 => k_mem); (case hqk3 => assumption); (case hqk4 | hqk5 | hqk6 => (first | lia | omega))); k_whole; intro _)) | ((k_here; (with_reducible show wpAny _ _ (subscriptTail _ _ (Value.ref _) (Value.int _ _)) _ _ _); k_dflt (refine' item_tupM ?hqk1 ?hqk2 ?hqk3 ?hqk4 ?hqk5 ?hqk6 ?_; (case hqk1 => k_asm); (case hqk2 => k_mem); (case hqk3 => assumption); (case hqk4 | hqk5 | hqk6 => (first | lia | omega))); k_whole; intro _)))) | ((k_here; (with_reducible show wpAny _ _ (setItem (Value.ref _) (Value.int _ _) (Value.int _ _)) _ _ _); k_dflt (refine' dset ?hqF ?hqN ?hqU ?hqd ?hqz ?_; (case hqF | hqN => k_asm); (case hqU => k_updF); (case hqd => assumption); (case hqz => (first | lia | omega))); intro _ _ _ hq_Np _; (try dsimp only at hq_Np); (try k_sweep))) | ((with_reducible show wpAny _ _ (call (Value.ref _) _) _ _ _); (first | ((k_here; (with_reducible show wpAny _ _ (call (Value.ref 115) _) _ _ _); k_dflt (refine' ct_useI (ipow_ct _ _ _ _ _ _ _ _ ?hqh1 ?hqh2 ?hqh3) ?kB ?kF ?kX ?kN ?kT ?kk ?kP ?kd ?ku ?_; (case hqh1 => first | assumption | (first | lia | omega)); (case hqh2 | hqh3 => (first | lia | omega)); (((case kB | kF | kX | kN | kT => k_asm); (case kk => first | exact rfl | assumption); (case kP => exact trivial); (case kd | ku => (((try dsimp only [ktrTop, Around.deeper, Around.in1] at *); (first | lia | omega)))); k_whole; intro mq_tp mq_hp mq_tkp mq_Fp mq_Np; (try dsimp only); (try k_sweep); (try k_fold)))))) | ((k_here; (with_reducible show wpAny _ _ (call (Value.ref 94) _) _ _ _); k_dflt (refine' ct_useI (mod_ct _ _ _ _ _ _ _ _ ?hqhm) ?kB ?kF ?kX ?kN ?kT ?kk ?kP ?kd ?ku ?_; (case hqhm => first | assumption | (first | lia | omega)); (((case kB | kF | kX | kN | kT => k_asm); (case kk => first | exact rfl | assumption); (case kP => exact trivial); (case kd | ku => (((try dsimp only [ktrTop, Around.deeper, Around.in1] at *); (first | lia | omega)))); k_whole; intro mq_tp mq_hp mq_tkp mq_Fp mq_Np; (try dsimp only); (try k_sweep); (try k_fold)))))) | ((k_here; (with_reducible show wpAny _ _ (call (Value.ref 101) _) _ _ _); k_dflt (refine' ct_useI (mul_ct _ _ _ _ _ _ _ _ ?hqhm) ?kB ?kF ?kX ?kN ?kT ?kk ?kP ?kd ?ku ?_; (case hqhm => first | assumption | (apply_assumption; (first | lia | omega))); (((case kB | kF | kX | kN | kT => k_asm); (case kk => first | exact rfl | assumption); (case kP => exact trivial); (case kd | ku => (((try dsimp only [ktrTop, Around.deeper, Around.in1] at *); (first | lia | omega)))); k_whole; intro mq_tp mq_hp mq_tkp mq_Fp mq_Np; (try dsimp only); (try k_sweep); (try k_fold)))))) | ((k_here; (with_reducible show wpAny _ _ (call (Value.ref 87) _) _ _ _); k_dflt (refine' ct_useI (add_ct _ _ _ _ _ _ _ _) ?kB ?kF ?kX ?kN ?kT ?kk ?kP ?kd ?ku ?_; (((case kB | kF | kX | kN | kT => k_asm); (case kk => first | exact rfl | assumption); (case kP => exact trivial); (case kd | ku => (((try dsimp only [ktrTop, Around.deeper, Around.in1] at *); (first | lia | omega)))); k_whole; intro mq_tp mq_hp mq_tkp mq_Fp mq_Np; (try dsimp only); (try k_sweep); (try k_fold)))))) | ((k_here; (with_reducible show wpAny _ _ (call (Value.ref 108) _) _ _ _); k_dflt (refine' ct_useI (countOf_ct _ _ _ _ _ _ _ _ _ _) ?kB ?kF ?kX ?kN ?kT ?kk ?kP ?kd ?ku ?_; (((case kB | kF | kX | kN | kT => k_asm); (case kk => first | exact rfl | assumption); (case kP => (first | ((refine ⟨?_, by k_mem⟩; first | assumption | exact IsWord.mono (by assumption) (by (first | exact fun _ h => h | (intro p hp; k_ownIn) | (intro p hp; exact List.mem_append.mpr (.inl hp)) | (intro p hp; exact List.mem_cons_of_mem _ (List.mem_append.mpr (.inl hp))) | (intro p hp; simp only [List.mem_append, List.mem_cons] at *; simp [hp]))))) | (first | exact trivial | assumption | exact Ws.mono (by assumption) (by (first | exact fun _ h => h | (intro p hp; k_ownIn) | (intro p hp; exact List.mem_append.mpr (.inl hp)) | (intro p hp; exact List.mem_cons_of_mem _ (List.mem_append.mpr (.inl hp))) | (intro p hp; simp only [List.mem_append, List.mem_cons] at *; simp [hp])))))); (case kd | ku => (((try dsimp only [ktrTop, Around.deeper, Around.in1] at *); (first | lia | omega)))); k_whole; intro mq_tp mq_hp mq_tkp mq_Fp mq_Np; (try dsimp only); (try k_sweep); (try k_fold)))))))) | ((with_reducible show wpAny _ _ (newTuple _) _ _ _); ((k_here; k_dflt (refine' kup_newTuple ?hqF ?hqN ?_ ?hqz; (case hqF | hqN => k_asm); (case hqz => kmk_size)); intro _ _ _ _ hq_l1; (try k_lt hq_l1); (try k_sweep)))) | ((k_here; (with_reducible show wpAny _ _ (call (Value.type _) [Value.ref _]) _ _ _); k_dflt (refine' kde_tupleOf ?hqk1 ?hqk2 ?hqk3 ?hqk4 ?hqk5 ?_; (case hqk1 | hqk2 => k_asm); (case hqk3 => exact News.isList (by k_asm) (by k_mem)); (case hqk4 => (simp only [List.size_toArray]; (first | lia | omega))); (case hqk5 => exact rfl); k_whole); intro _ _ _ _ hq_l1; (try k_lt hq_l1); (try k_sweep))) | ((with_reducible show wpAny _ _ (call (Value.builtin _) _) _ _ _); (first | ((k_here; (with_reducible show wpAny _ _ (call (Value.builtin "len") [Value.ref _]) _ _ _); k_dflt (refine' len_tupM ?hqk1 ?hqk2 ?hqk3 ?hqk4 ?_; (case hqk1 => k_asm); (case hqk2 => k_mem); (case hqk3 => first | exact IntsAre.length (by assumption) | assumption); (case hqk4 => (first | lia | omega))); k_whole)) | ((k_here; (with_reducible show wpAny _ _ (call (Value.builtin "len") [Value.ref _]) _ _ _); k_dflt (refine' len_listM ?hqk1 ?hqk2 ?hqk3 ?hqk4 ?_; (case hqk1 => k_asm); (case hqk2 => k_mem); (case hqk3 => first | exact IntsAre.length (by assumption) | assumption); (case hqk4 => (first | lia | omega))); k_whole)))))) | ((fail_if_success with_reducible (first | show wpAny _ _ (exec (Stmt.If _ _ _ _) _) _ _ _ | show wpAny _ _ (eval (Expr.IfExp _ _ _ _) _) _ _ _ | show wpAny _ _ (exec (Stmt.For _ _ _ _ _) _) _ _ _ | show wpAny _ _ (pyIter _) _ _ _ | show wpAny _ _ (exec (Stmt.Assign _ (Expr.ListComp _ _ _ _) _) _) _ _ _ | show wpAny _ _ (eval (Expr.ListComp _ _ _ _) _) _ _ _ | show LCg.CompSrc _ _ _ _ _ _ _ _ _ _ _ _ _ _ | show LCg.CompEnd _ _ _ _ _ _ _ _ _ _ _ _ _ _ | show LCt.CompSrcT _ _ _ _ _ _ _ _ _ _ _ _ _ _ _)); first | walk1 | (dsimp only; walk1)) | (leave1; try dsimp only) | fail))
          refine if_int lF lN (Str.ofString "worth") (tab q i j k) ?_ ?_
          · (repeat' (first | (k_unfold; (try dsimp only)) | (k_end; wrow_close) | ((with_reducible show wpAny _ _ (execs (_ :: _) _) _ _ (Shared.mk _ _ _ (_ + 1) _)); (with_reducible refine toks_cut ?_); intro _) | ((first | ((with_reducible show wpAny _ _ (subscriptTail _ _ (Value.ref _) _) _ _ _); (first | ((k_here; (with_reducible show wpAny _ _ (subscriptTail _ _ (Value.ref _) (Value.int _ _)) _ _ _); k_dflt (refine' item_refM ?hqk1 ?hqk2 ?hqk4 ?hqk5 ?hqk6 ?_; (case hqk1 => k_asm); (case hqk2 => k_mem); (case hqk4 | hqk5 => (first | lia | omega)); (case hqk6 => first | assumption | exact rfl)); k_whole)) | ((k_here; (with_reducible show wpAny _ _ (subscriptTail _ _ (Value.ref _) (Value.int _ _)) _ _ _); k_dflt (refine' dget ?hqk1 ?hqk2 ?hqk3 ?hqk4 ?hqk5 ?_; (case hqk1 => k_asm); (case hqk2 => k_mem); (case hqk3 | hqk4 => assumption); (case hqk5 => first | assumption | (apply_assumption; (first | lia | omega)))); k_whole; intro _)) | ((k_here; (with_reducible show wpAny _ _ (subscriptTail _ _ (Value.ref _) (Value.int _ _)) _ _ _); k_dflt (refine' item_listM ?hqk1 ?hqk2 ?hqk3 ?hqk4 ?hqk5 ?hqk6 ?_; (case hqk1 => k_asm); (case hqk2 => k_mem); (case hqk3 => assumption); (case hqk4 | hqk5 | hqk6 => (first | lia | omega))); k_whole; intro _)) | ((k_here; (with_reducible show wpAny _ _ (subscriptTail _ _ (Value.ref _) (Value.int _ _)) _ _ _); k_dflt (refine' item_tupM ?hqk1 ?hqk2 ?hqk3 ?hqk4 ?hqk5 ?hqk6 ?_; (case hqk1 => k_asm); (case hqk2 => k_mem); (case hqk3 => assumption); (case hqk4 | hqk5 | hqk6 => (first | lia | omega))); k_whole; intro _)))) | ((k_here; (with_reducible show wpAny _ _ (setItem (Value.ref _) (Value.int _ _) (Value.int _ _)) _ _ _); k_dflt (refine' dset ?hqF ?hqN ?hqU ?hqd ?hqz ?_; (case hqF | hqN => k_asm); (case hqU => k_updF); (case hqd => assumption); (case hqz => (first | lia | omega))); intro _ _ _ hq_Np _; (try dsimp only at hq_Np); (try k_sweep))) | ((with_reducible show wpAny _ _ (call (Value.ref _) _) _ _ _); (first | ((k_here; (with_reducible show wpAny _ _ (call (Value.ref 115) _) _ _ _); k_dflt (refine' ct_useI (ipow_ct _ _ _ _ _ _ _ _ ?hqh1 ?hqh2 ?hqh3) ?kB ?kF ?kX ?kN ?kT ?kk ?kP ?kd ?ku ?_; (case hqh1 => first | assumption | (first | lia | omega)); (case hqh2 | hqh3 => (first | lia | omega)); (((case kB | kF | kX | kN | kT => k_asm); (case kk => first | exact rfl | assumption); (case kP => exact trivial); (case kd | ku => (((try dsimp only [ktrTop, Around.deeper, Around.in1] at *); (first | lia | omega)))); k_whole; intro mq_tp mq_hp mq_tkp mq_Fp mq_Np; (try dsimp only); (try k_sweep); (try k_fold)))))) | ((k_here; (with_reducible show wpAny _ _ (call (Value.ref 94) _) _ _ _); k_dflt (refine' ct_useI (mod_ct _ _ _ _ _ _ _ _ ?hqhm) ?kB ?kF ?kX ?kN ?kT ?kk ?kP ?kd ?ku ?_; (case hqhm => first | assumption | (first | lia | omega)); (((case kB | kF | kX | kN | kT => k_asm); (case kk => first | exact rfl | assumption); (case kP => exact trivial); (case kd | ku => (((try dsimp only [ktrTop, Around.deeper, Around.in1] at *); (first | lia | omega)))); k_whole; intro mq_tp mq_hp mq_tkp mq_Fp mq_Np; (try dsimp only); (try k_sweep); (try k_fold)))))) | ((k_here; (with_reducible show wpAny _ _ (call (Value.ref 101) _) _ _ _); k_dflt (refine' ct_useI (mul_ct _ _ _ _ _ _ _ _ ?hqhm) ?kB ?kF ?kX ?kN ?kT ?kk ?kP ?kd ?ku ?_; (case hqhm => first | assumption | (apply_assumption; (first | lia | omega))); (((case kB | kF | kX | kN | kT => k_asm); (case kk => first | exact rfl | assumption); (case kP => exact trivial); (case kd | ku => (((try dsimp only [ktrTop, Around.deeper, Around.in1] at *); (first | lia | omega)))); k_whole; intro mq_tp mq_hp mq_tkp mq_Fp mq_Np; (try dsimp only); (try k_sweep); (try k_fold)))))) | ((k_here; (with_reducible show wpAny _ _ (call (Value.ref 87) _) _ _ _); k_dflt (refine' ct_useI (add_ct _ _ _ _ _ _ _ _) ?kB ?kF ?kX ?kN ?kT ?kk ?kP ?kd ?ku ?_; (((case kB | kF | kX | kN | kT => k_asm); (case kk => first | exact rfl | assumption); (case kP => exact trivial); (case kd | ku => (((try dsimp only [ktrTop, Around.deeper, Around.in1] at *); (first | lia | omega)))); k_whole; intro mq_tp mq_hp mq_tkp mq_Fp mq_Np; (try dsimp only); (try k_sweep); (try k_fold)))))) | ((k_here; (with_reducible show wpAny _ _ (call (Value.ref 108) _) _ _ _); k_dflt (refine' ct_useI (countOf_ct _ _ _ _ _ _ _ _ _ _) ?kB ?kF ?kX ?kN ?kT ?kk ?kP ?kd ?ku ?_; (((case kB | kF | kX | kN | kT => k_asm); (case kk => first | exact rfl | assumption); (case kP => (first | ((refine ⟨?_, by k_mem⟩; first | assumption | exact IsWord.mono (by assumption) (by (first | exact fun _ h => h | (intro p hp; k_ownIn) | (intro p hp; exact List.mem_append.mpr (.inl hp)) | (intro p hp; exact List.mem_cons_of_mem _ (List.mem_append.mpr (.inl hp))) | (intro p hp; simp only [List.mem_append, List.mem_cons] at *; simp [hp]))))) | (first | exact trivial | assumption | exact Ws.mono (by assumption) (by (first | exact fun _ h => h | (intro p hp; k_ownIn) | (intro p hp; exact List.mem_append.mpr (.inl hp)) | (intro p hp; exact List.mem_cons_of_mem _ (List.mem_append.mpr (.inl hp))) | (intro p hp; simp only [List.mem_append, List.mem_cons] at *; simp [hp])))))); (case kd | ku => (((try dsimp only [ktrTop, Around.deeper, Around.in1] at *); (first | lia | omega)))); k_whole; intro mq_tp mq_hp mq_tkp mq_Fp mq_Np; (try dsimp only); (try k_sweep); (try k_fold)))))))) | ((with_reducible show wpAny _ _ (newTuple _) _ _ _); ((k_here; k_dflt (refine' kup_newTuple ?hqF ?hqN ?_ ?hqz; (case hqF | hqN => k_asm); (case hqz => kmk_size)); intro _ _ _ _ hq_l1; (try k_lt hq_l1); (try k_sweep)))) | ((k_here; (with_reducible show wpAny _ _ (call (Value.type _) [Value.ref _]) _ _ _); k_dflt (refine' kde_tupleOf ?hqk1 ?hqk2 ?hqk3 ?hqk4 ?hqk5 ?_; (case hqk1 | hqk2 => k_asm); (case hqk3 => exact News.isList (by k_asm) (by k_mem)); (case hqk4 => (simp only [List.size_toArray]; (first | lia | omega))); (case hqk5 => exact rfl); k_whole); intro _ _ _ _ hq_l1; (try k_lt hq_l1); (try k_sweep))) | ((with_reducible show wpAny _ _ (call (Value.builtin _) _) _ _ _); (first | ((k_here; (with_reducible show wpAny _ _ (call (Value.builtin "len") [Value.ref _]) _ _ _); k_dflt (refine' len_tupM ?hqk1 ?hqk2 ?hqk3 ?hqk4 ?_; (case hqk1 => k_asm); (case hqk2 => k_mem); (case hqk3 => first | exact IntsAre.length (by assumption) | assumption); (case hqk4 => (first | lia | omega))); k_whole)) | ((k_here; (with_reducible show wpAny _ _ (call (Value.builtin "len") [Value.ref _]) _ _ _); k_dflt (refine' len_listM ?hqk1 ?hqk2 ?hqk3 ?hqk4 ?_; (case hqk1 => k_asm); (case hqk2 => k_mem); (case hqk3 => first | exact IntsAre.length (by assumption) | assumption); (case hqk4 => (first | lia | omega))); k_whole)))))) | ((fail_if_success with_reducible (first | show wpAny _ _ (exec (Stmt.For _ _ _ _ _) _) _ _ _ | show wpAny _ _ (pyIter _) _ _ _ | show wpAny _ _ (exec (Stmt.Assign _ (Expr.ListComp _ _ _ _) _) _) _ _ _ | show wpAny _ _ (eval (Expr.ListComp _ _ _ _) _) _ _ _ | show LCg.CompSrc _ _ _ _ _ _ _ _ _ _ _ _ _ _ | show LCg.CompEnd _ _ _ _ _ _ _ _ _ _ _ _ _ _ | show LCt.CompSrcT _ _ _ _ _ _ _ _ _ _ _ _ _ _ _)); first | walk1 | (dsimp only; walk1)) | (leave1; try dsimp only) | fail))
            · rename Fr _ _ _ _ => lF2
              rename News _ _ _ _ => lN2
              exact if_end lF2 lN2 rfl rfl (by rw [tab_eq q i j k, if_pos (show 0 < k by (first | lia | omega)), W0_eq i j k]) (fun y hy => if_neg hy)
            · exact if_end lF lN rfl rfl (by rw [tab_eq q i j k, if_neg (show ¬ 0 < k by (first | lia | omega)), Int.add_zero, W0_eq i j k]) (fun y hy => rfl)
          clear lF lN
          intro h7 tk7 u7 lF lN
          try dsimp only
          try k_fold
          (repeat' (first | (k_unfold; (try dsimp only)) | (k_end; wrow_close) | ((with_reducible show wpAny _ _ (execs (_ :: _) _) _ _ (Shared.mk _ _ _ (_ + 1) _)); (with_reducible refine toks_cut ?_); intro _) | ((first | ((with_reducible show wpAny _ _ (subscriptTail _ _ (Value.ref _) _) _ _ _); (first | ((k_here; (with_reducible show wpAny _ _ (subscriptTail _ _ (Value.ref _) (Value.int _ _)) _ _ _); k_dflt (refine' item_refM ?hqk1 ?hqk2 ?hqk4 ?hqk5 ?hqk6 ?_; (case hqk1 => k_asm); (case hqk2 => k_mem); (case hqk4 | hqk5 => (first | lia | omega)); (case hqk6 => first | assumption | exact rfl)); k_whole)) | ((k_here; (with_reducible show wpAny _ _ (subscriptTail _ _ (Value.ref _) (Value.int _ _)) _ _ _); k_dflt (refine' dget ?hqk1 ?hqk2 ?hqk3 ?hqk4 ?hqk5 ?_; (case hqk1 => k_asm); (case hqk2 => k_mem); (case hqk3 | hqk4 => assumption); (case hqk5 => first | assumption | (apply_assumption; (first | lia | omega)))); k_whole; intro _)) | ((k_here; (with_reducible show wpAny _ _ (subscriptTail _ _ (Value.ref _) (Value.int _ _)) _ _ _); k_dflt (refine' item_listM ?hqk1 ?hqk2 ?hqk3 ?hqk4 ?hqk5 ?hqk6 ?_; (case hqk1 => k_asm); (case hqk2 => k_mem); (case hqk3 => assumption); (case hqk4 | hqk5 | hqk6 => (first | lia | omega))); k_whole; intro _)) | ((k_here; (with_reducible show wpAny _ _ (subscriptTail _ _ (Value.ref _) (Value.int _ _)) _ _ _); k_dflt (refine' item_tupM ?hqk1 ?hqk2 ?hqk3 ?hqk4 ?hqk5 ?hqk6 ?_; (case hqk1 => k_asm); (case hqk2 => k_mem); (case hqk3 => assumption); (case hqk4 | hqk5 | hqk6 => (first | lia | omega))); k_whole; intro _)))) | ((k_here; (with_reducible show wpAny _ _ (setItem (Value.ref _) (Value.int _ _) (Value.int _ _)) _ _ _); k_dflt (refine' dset ?hqF ?hqN ?hqU ?hqd ?hqz ?_; (case hqF | hqN => k_asm); (case hqU => k_updF); (case hqd => assumption); (case hqz => (first | lia | omega))); intro _ _ _ hq_Np _; (try dsimp only at hq_Np); (try k_sweep))) | ((with_reducible show wpAny _ _ (call (Value.ref _) _) _ _ _); (first | ((k_here; (with_reducible show wpAny _ _ (call (Value.ref 115) _) _ _ _); k_dflt (refine' ct_useI (ipow_ct _ _ _ _ _ _ _ _ ?hqh1 ?hqh2 ?hqh3) ?kB ?kF ?kX ?kN ?kT ?kk ?kP ?kd ?ku ?_; (case hqh1 => first | assumption | (first | lia | omega)); (case hqh2 | hqh3 => (first | lia | omega)); (((case kB | kF | kX | kN | kT => k_asm); (case kk => first | exact rfl | assumption); (case kP => exact trivial); (case kd | ku => (((try dsimp only [ktrTop, Around.deeper, Around.in1] at *); (first | lia | omega)))); k_whole; intro mq_tp mq_hp mq_tkp mq_Fp mq_Np; (try dsimp only); (try k_sweep); (try k_fold)))))) | ((k_here; (with_reducible show wpAny _ _ (call (Value.ref 94) _) _ _ _); k_dflt (refine' ct_useI (mod_ct _ _ _ _ _ _ _ _ ?hqhm) ?kB ?kF ?kX ?kN ?kT ?kk ?kP ?kd ?ku ?_; (case hqhm => first | assumption | (first | lia | omega)); (((case kB | kF | kX | kN | kT => k_asm); (case kk => first | exact rfl | assumption); (case kP => exact trivial); (case kd | ku => (((try dsimp only [ktrTop, Around.deeper, Around.in1] at *); (first | lia | omega)))); k_whole; intro mq_tp mq_hp mq_tkp mq_Fp mq_Np; (try dsimp only); (try k_sweep); (try k_fold)))))) | ((k_here; (with_reducible show wpAny _ _ (call (Value.ref 101) _) _ _ _); k_dflt (refine' ct_useI (mul_ct _ _ _ _ _ _ _ _ ?hqhm) ?kB ?kF ?kX ?kN ?kT ?kk ?kP ?kd ?ku ?_; (case hqhm => first | assumption | (apply_assumption; (first | lia | omega))); (((case kB | kF | kX | kN | kT => k_asm); (case kk => first | exact rfl | assumption); (case kP => exact trivial); (case kd | ku => (((try dsimp only [ktrTop, Around.deeper, Around.in1] at *); (first | lia | omega)))); k_whole; intro mq_tp mq_hp mq_tkp mq_Fp mq_Np; (try dsimp only); (try k_sweep); (try k_fold)))))) | ((k_here; (with_reducible show wpAny _ _ (call (Value.ref 87) _) _ _ _); k_dflt (refine' ct_useI (add_ct _ _ _ _ _ _ _ _) ?kB ?kF ?kX ?kN ?kT ?kk ?kP ?kd ?ku ?_; (((case kB | kF | kX | kN | kT => k_asm); (case kk => first | exact rfl | assumption); (case kP => exact trivial); (case kd | ku => (((try dsimp only [ktrTop, Around.deeper, Around.in1] at *); (first | lia | omega)))); k_whole; intro mq_tp mq_hp mq_tkp mq_Fp mq_Np; (try dsimp only); (try k_sweep); (try k_fold)))))) | ((k_here; (with_reducible show wpAny _ _ (call (Value.ref 108) _) _ _ _); k_dflt (refine' ct_useI (countOf_ct _ _ _ _ _ _ _ _ _ _) ?kB ?kF ?kX ?kN ?kT ?kk ?kP ?kd ?ku ?_; (((case kB | kF | kX | kN | kT => k_asm); (case kk => first | exact rfl | assumption); (case kP => (first | ((refine ⟨?_, by k_mem⟩; first | assumption | exact IsWord.mono (by assumption) (by (first | exact fun _ h => h | (intro p hp; k_ownIn) | (intro p hp; exact List.mem_append.mpr (.inl hp)) | (intro p hp; exact List.mem_cons_of_mem _ (List.mem_append.mpr (.inl hp))) | (intro p hp; simp only [List.mem_append, List.mem_cons] at *; simp [hp]))))) | (first | exact trivial | assumption | exact Ws.mono (by assumption) (by (first | exact fun _ h => h | (intro p hp; k_ownIn) | (intro p hp; exact List.mem_append.mpr (.inl hp)) | (intro p hp; exact List.mem_cons_of_mem _ (List.mem_append.mpr (.inl hp))) | (intro p hp; simp only [List.mem_append, List.mem_cons] at *; simp [hp])))))); (case kd | ku => (((try dsimp only [ktrTop, Around.deeper, Around.in1] at *); (first | lia | omega)))); k_whole; intro mq_tp mq_hp mq_tkp mq_Fp mq_Np; (try dsimp only); (try k_sweep); (try k_fold)))))))) | ((with_reducible show wpAny _ _ (newTuple _) _ _ _); ((k_here; k_dflt (refine' kup_newTuple ?hqF ?hqN ?_ ?hqz; (case hqF | hqN => k_asm); (case hqz => kmk_size)); intro _ _ _ _ hq_l1; (try k_lt hq_l1); (try k_sweep)))) | ((k_here; (with_reducible show wpAny _ _ (call (Value.type _) [Value.ref _]) _ _ _); k_dflt (refine' kde_tupleOf ?hqk1 ?hqk2 ?hqk3 ?hqk4 ?hqk5 ?_; (case hqk1 | hqk2 => k_asm); (case hqk3 => exact News.isList (by k_asm) (by k_mem)); (case hqk4 => (simp only [List.size_toArray]; (first | lia | omega))); (case hqk5 => exact rfl); k_whole); intro _ _ _ _ hq_l1; (try k_lt hq_l1); (try k_sweep))) | ((with_reducible show wpAny _ _ (call (Value.builtin _) _) _ _ _); (first | ((k_here; (with_reducible show wpAny _ _ (call (Value.builtin "len") [Value.ref _]) _ _ _); k_dflt (refine' len_tupM ?hqk1 ?hqk2 ?hqk3 ?hqk4 ?_; (case hqk1 => k_asm); (case hqk2 => k_mem); (case hqk3 => first | exact IntsAre.length (by assumption) | assumption); (case hqk4 => (first | lia | omega))); k_whole)) | ((k_here; (with_reducible show wpAny _ _ (call (Value.builtin "len") [Value.ref _]) _ _ _); k_dflt (refine' len_listM ?hqk1 ?hqk2 ?hqk3 ?hqk4 ?_; (case hqk1 => k_asm); (case hqk2 => k_mem); (case hqk3 => first | exact IntsAre.length (by assumption) | assumption); (case hqk4 => (first | lia | omega))); k_whole)))))) | ((fail_if_success with_reducible (first | show wpAny _ _ (exec (Stmt.For _ _ _ _ _) _) _ _ _ | show wpAny _ _ (pyIter _) _ _ _ | show wpAny _ _ (exec (Stmt.Assign _ (Expr.ListComp _ _ _ _) _) _) _ _ _ | show wpAny _ _ (eval (Expr.ListComp _ _ _ _) _) _ _ _ | show LCg.CompSrc _ _ _ _ _ _ _ _ _ _ _ _ _ _ | show LCg.CompEnd _ _ _ _ _ _ _ _ _ _ _ _ _ _ | show LCt.CompSrcT _ _ _ _ _ _ _ _ _ _ _ _ _ _ _)); first | walk1 | (dsimp only; walk1)) | (leave1; try dsimp only) | fail))
          rename (DictIs w _ (PyProof.V.putD _ _ ck.D)) => hDn
          refine lp_end ⟨_, PyProof.V.putD (.int (plv i j k)) (.int (tab q i j k)) ck.D, some (plv i j k, _)⟩ (by k_asm) (by k_asm) (fun p hp => wo_mem1 hp) (fun p hp => wo_mem2 hp) (wo_off hoff3) (List.forall_mem_cons.mpr ⟨by with_unfolding_all rfl, List.forall_mem_nil _⟩) (by ((intro mq_z mq_h1 mq_h2 mq_h3; (try simp only [List.forall_mem_cons] at mq_h2); first | (simp [kstB, mq_h1, mq_h2, mq_h3]; done) | (simp [kstB, mq_h1, mq_h2]; done) | (simp [kstB, mq_h1]; done) | (simp_all [kstB]; done)))) ⟨hDn, hFk.put (by (first | lia | omega)) (by (first | lia | omega)) (by (first | lia | omega)) (by (first | lia | omega)), Nat.le_trans (PyProof.V.putD_length_le _ _ _) (by (first | lia | omega)), fun _ => ⟨_, rfl⟩⟩
        · intro ck uk hk' tkk hPk Fk Nk
          obtain ⟨ok, Dk, plk⟩ := ck
          have hDk := hPk.1
          have hFk := hPk.2.1
          have hLk := hPk.2.2.1
          have hpl := hPk.2.2.2
          obtain ⟨tp, rfl⟩ := hpl (by (first | lia | omega))
          try k_fold
          (repeat' (first | (k_unfold; (try dsimp only)) | (k_end; wrow_close) | ((with_reducible show wpAny _ _ (execs (_ :: _) _) _ _ (Shared.mk _ _ _ (_ + 1) _)); (with_reducible refine toks_cut ?_); intro _) | ((first | ((with_reducible show wpAny _ _ (subscriptTail _ _ (Value.ref _) _) _ _ _); (first | ((k_here; (with_reducible show wpAny _ _ (subscriptTail _ _ (Value.ref _) (Value.int _ _)) _ _ _); k_dflt (refine' item_refM ?hqk1 ?hqk2 ?hqk4 ?hqk5 ?hqk6 ?_; (case hqk1 => k_asm); (case hqk2 => k_mem); (case hqk4 | hqk5 => (first | lia | omega)); (case hqk6 => first | assumption | exact rfl)); k_whole)) | ((k_here; (with_reducible show wpAny _ _ (subscriptTail _ _ (Value.ref _) (Value.int _ _)) _ _ _); k_dflt (refine' dget ?hqk1 ?hqk2 ?hqk3 ?hqk4 ?hqk5 ?_; (case hqk1 => k_asm); (case hqk2 => k_mem); (case hqk3 | hqk4 => assumption); (case hqk5 => first | assumption | (apply_assumption; (first | lia | omega)))); k_whole; intro _)) | ((k_here; (with_reducible show wpAny _ _ (subscriptTail _ _ (Value.ref _) (Value.int _ _)) _ _ _); k_dflt (refine' item_listM ?hqk1 ?hqk2 ?hqk3 ?hqk4 ?hqk5 ?hqk6 ?_; (case hqk1 => k_asm); (case hqk2 => k_mem); (case hqk3 => assumption); (case hqk4 | hqk5 | hqk6 => (first | lia | omega))); k_whole; intro _)) | ((k_here; (with_reducible show wpAny _ _ (subscriptTail _ _ (Value.ref _) (Value.int _ _)) _ _ _); k_dflt (refine' item_tupM ?hqk1 ?hqk2 ?hqk3 ?hqk4 ?hqk5 ?hqk6 ?_; (case hqk1 => k_asm); (case hqk2 => k_mem); (case hqk3 => assumption); (case hqk4 | hqk5 | hqk6 => (first | lia | omega))); k_whole; intro _)))) | ((k_here; (with_reducible show wpAny _ _ (setItem (Value.ref _) (Value.int _ _) (Value.int _ _)) _ _ _); k_dflt (refine' dset ?hqF ?hqN ?hqU ?hqd ?hqz ?_; (case hqF | hqN => k_asm); (case hqU => k_updF); (case hqd => assumption); (case hqz => (first | lia | omega))); intro _ _ _ hq_Np _; (try dsimp only at hq_Np); (try k_sweep))) | ((with_reducible show wpAny _ _ (call (Value.ref _) _) _ _ _); (first | ((k_here; (with_reducible show wpAny _ _ (call (Value.ref 115) _) _ _ _); k_dflt (refine' ct_useI (ipow_ct _ _ _ _ _ _ _ _ ?hqh1 ?hqh2 ?hqh3) ?kB ?kF ?kX ?kN ?kT ?kk ?kP ?kd ?ku ?_; (case hqh1 => first | assumption | (first | lia | omega)); (case hqh2 | hqh3 => (first | lia | omega)); (((case kB | kF | kX | kN | kT => k_asm); (case kk => first | exact rfl | assumption); (case kP => exact trivial); (case kd | ku => (((try dsimp only [ktrTop, Around.deeper, Around.in1] at *); (first | lia | omega)))); k_whole; intro mq_tp mq_hp mq_tkp mq_Fp mq_Np; (try dsimp only); (try k_sweep); (try k_fold)))))) | ((k_here; (with_reducible show wpAny _ _ (call (Value.ref 94) _) _ _ _); k_dflt (refine' ct_useI (mod_ct _ _ _ _ _ _ _ _ ?hqhm) ?kB ?kF ?kX ?kN ?kT ?kk ?kP ?kd ?ku ?_; (case hqhm => first | assumption | (first | lia | omega)); (((case kB | kF | kX | kN | kT => k_asm); (case kk => first | exact rfl | assumption); (case kP => exact trivial); (case kd | ku => (((try dsimp only [ktrTop, Around.deeper, Around.in1] at *); (first | lia | omega)))); k_whole; intro mq_tp mq_hp mq_tkp mq_Fp mq_Np; (try dsimp only); (try k_sweep); (try k_fold)))))) | ((k_here; (with_reducible show wpAny _ _ (call (Value.ref 101) _) _ _ _); k_dflt (refine' ct_useI (mul_ct _ _ _ _ _ _ _ _ ?hqhm) ?kB ?kF ?kX ?kN ?kT ?kk ?kP ?kd ?ku ?_; (case hqhm => first | assumption | (apply_assumption; (first | lia | omega))); (((case kB | kF | kX | kN | kT => k_asm); (case kk => first | exact rfl | assumption); (case kP => exact trivial); (case kd | ku => (((try dsimp only [ktrTop, Around.deeper, Around.in1] at *); (first | lia | omega)))); k_whole; intro mq_tp mq_hp mq_tkp mq_Fp mq_Np; (try dsimp only); (try k_sweep); (try k_fold)))))) | ((k_here; (with_reducible show wpAny _ _ (call (Value.ref 87) _) _ _ _); k_dflt (refine' ct_useI (add_ct _ _ _ _ _ _ _ _) ?kB ?kF ?kX ?kN ?kT ?kk ?kP ?kd ?ku ?_; (((case kB | kF | kX | kN | kT => k_asm); (case kk => first | exact rfl | assumption); (case kP => exact trivial); (case kd | ku => (((try dsimp only [ktrTop, Around.deeper, Around.in1] at *); (first | lia | omega)))); k_whole; intro mq_tp mq_hp mq_tkp mq_Fp mq_Np; (try dsimp only); (try k_sweep); (try k_fold)))))) | ((k_here; (with_reducible show wpAny _ _ (call (Value.ref 108) _) _ _ _); k_dflt (refine' ct_useI (countOf_ct _ _ _ _ _ _ _ _ _ _) ?kB ?kF ?kX ?kN ?kT ?kk ?kP ?kd ?ku ?_; (((case kB | kF | kX | kN | kT => k_asm); (case kk => first | exact rfl | assumption); (case kP => (first | ((refine ⟨?_, by k_mem⟩; first | assumption | exact IsWord.mono (by assumption) (by (first | exact fun _ h => h | (intro p hp; k_ownIn) | (intro p hp; exact List.mem_append.mpr (.inl hp)) | (intro p hp; exact List.mem_cons_of_mem _ (List.mem_append.mpr (.inl hp))) | (intro p hp; simp only [List.mem_append, List.mem_cons] at *; simp [hp]))))) | (first | exact trivial | assumption | exact Ws.mono (by assumption) (by (first | exact fun _ h => h | (intro p hp; k_ownIn) | (intro p hp; exact List.mem_append.mpr (.inl hp)) | (intro p hp; exact List.mem_cons_of_mem _ (List.mem_append.mpr (.inl hp))) | (intro p hp; simp only [List.mem_append, List.mem_cons] at *; simp [hp])))))); (case kd | ku => (((try dsimp only [ktrTop, Around.deeper, Around.in1] at *); (first | lia | omega)))); k_whole; intro mq_tp mq_hp mq_tkp mq_Fp mq_Np; (try dsimp only); (try k_sweep); (try k_fold)))))))) | ((with_reducible show wpAny _ _ (newTuple _) _ _ _); ((k_here; k_dflt (refine' kup_newTuple ?hqF ?hqN ?_ ?hqz; (case hqF | hqN => k_asm); (case hqz => kmk_size)); intro _ _ _ _ hq_l1; (try k_lt hq_l1); (try k_sweep)))) | ((k_here; (with_reducible show wpAny _ _ (call (Value.type _) [Value.ref _]) _ _ _); k_dflt (refine' kde_tupleOf ?hqk1 ?hqk2 ?hqk3 ?hqk4 ?hqk5 ?_; (case hqk1 | hqk2 => k_asm); (case hqk3 => exact News.isList (by k_asm) (by k_mem)); (case hqk4 => (simp only [List.size_toArray]; (first | lia | omega))); (case hqk5 => exact rfl); k_whole); intro _ _ _ _ hq_l1; (try k_lt hq_l1); (try k_sweep))) | ((with_reducible show wpAny _ _ (call (Value.builtin _) _) _ _ _); (first | ((k_here; (with_reducible show wpAny _ _ (call (Value.builtin "len") [Value.ref _]) _ _ _); k_dflt (refine' len_tupM ?hqk1 ?hqk2 ?hqk3 ?hqk4 ?_; (case hqk1 => k_asm); (case hqk2 => k_mem); (case hqk3 => first | exact IntsAre.length (by assumption) | assumption); (case hqk4 => (first | lia | omega))); k_whole)) | ((k_here; (with_reducible show wpAny _ _ (call (Value.builtin "len") [Value.ref _]) _ _ _); k_dflt (refine' len_listM ?hqk1 ?hqk2 ?hqk3 ?hqk4 ?_; (case hqk1 => k_asm); (case hqk2 => k_mem); (case hqk3 => first | exact IntsAre.length (by assumption) | assumption); (case hqk4 => (first | lia | omega))); k_whole)))))) | ((fail_if_success with_reducible (first | show wpAny _ _ (exec (Stmt.For _ _ _ _ _) _) _ _ _ | show wpAny _ _ (pyIter _) _ _ _ | show wpAny _ _ (exec (Stmt.Assign _ (Expr.ListComp _ _ _ _) _) _) _ _ _ | show wpAny _ _ (eval (Expr.ListComp _ _ _ _) _) _ _ _ | show LCg.CompSrc _ _ _ _ _ _ _ _ _ _ _ _ _ _ | show LCg.CompEnd _ _ _ _ _ _ _ _ _ _ _ _ _ _ | show LCt.CompSrcT _ _ _ _ _ _ _ _ _ _ _ _ _ _ _)); first | walk1 | (dsimp only; walk1)) | (leave1; try dsimp only) | fail))
          refine lp_end ⟨ok, Dk, some (plv i j c2, tp)⟩ (by k_asm) (by k_asm) (fun p hp => wo_mem1 hp) (fun p hp => wo_mem2 hp) (wo_off hoff2) (List.forall_mem_cons.mpr ⟨by with_unfolding_all rfl, List.forall_mem_nil _⟩) (by intro z h1 h2 h3; have h4 : z ≠ Str.ofString "place" ∧ z ≠ Str.ofString "worth" ∧ z ≠ Str.ofString "k" := (by simpa using h3); obtain ⟨h5, h6, h7⟩ := h4; simp [kstB, plP, h1, h5, h6, h7]) ⟨hDk, hFk.row, by dsimp only at *; (first | lia | omega), fun _ => ⟨_, rfl⟩⟩
      · intro cj uj hj' tkj hPj Fj Nj
        obtain ⟨oj, Dj', plj⟩ := cj
        have hDj := hPj.1
        have hFj := hPj.2.1
        have hLj := hPj.2.2.1
        have hpl := hPj.2.2.2
        obtain ⟨tp, rfl⟩ := hpl (by (first | lia | omega))
        try k_fold
        (repeat' (first | (k_unfold; (try dsimp only)) | (k_end; wrow_close) | ((with_reducible show wpAny _ _ (execs (_ :: _) _) _ _ (Shared.mk _ _ _ (_ + 1) _)); (with_reducible refine toks_cut ?_); intro _) | ((first | ((with_reducible show wpAny _ _ (subscriptTail _ _ (Value.ref _) _) _ _ _); (first | ((k_here; (with_reducible show wpAny _ _ (subscriptTail _ _ (Value.ref _) (Value.int _ _)) _ _ _); k_dflt (refine' item_refM ?hqk1 ?hqk2 ?hqk4 ?hqk5 ?hqk6 ?_; (case hqk1 => k_asm); (case hqk2 => k_mem); (case hqk4 | hqk5 => (first | lia | omega)); (case hqk6 => first | assumption | exact rfl)); k_whole)) | ((k_here; (with_reducible show wpAny _ _ (subscriptTail _ _ (Value.ref _) (Value.int _ _)) _ _ _); k_dflt (refine' dget ?hqk1 ?hqk2 ?hqk3 ?hqk4 ?hqk5 ?_; (case hqk1 => k_asm); (case hqk2 => k_mem); (case hqk3 | hqk4 => assumption); (case hqk5 => first | assumption | (apply_assumption; (first | lia | omega)))); k_whole; intro _)) | ((k_here; (with_reducible show wpAny _ _ (subscriptTail _ _ (Value.ref _) (Value.int _ _)) _ _ _); k_dflt (refine' item_listM ?hqk1 ?hqk2 ?hqk3 ?hqk4 ?hqk5 ?hqk6 ?_; (case hqk1 => k_asm); (case hqk2 => k_mem); (case hqk3 => assumption); (case hqk4 | hqk5 | hqk6 => (first | lia | omega))); k_whole; intro _)) | ((k_here; (with_reducible show wpAny _ _ (subscriptTail _ _ (Value.ref _) (Value.int _ _)) _ _ _); k_dflt (refine' item_tupM ?hqk1 ?hqk2 ?hqk3 ?hqk4 ?hqk5 ?hqk6 ?_; (case hqk1 => k_asm); (case hqk2 => k_mem); (case hqk3 => assumption); (case hqk4 | hqk5 | hqk6 => (first | lia | omega))); k_whole; intro _)))) | ((k_here; (with_reducible show wpAny _ _ (setItem (Value.ref _) (Value.int _ _) (Value.int _ _)) _ _ _); k_dflt (refine' dset ?hqF ?hqN ?hqU ?hqd ?hqz ?_; (case hqF | hqN => k_asm); (case hqU => k_updF); (case hqd => assumption); (case hqz => (first | lia | omega))); intro _ _ _ hq_Np _; (try dsimp only at hq_Np); (try k_sweep))) | ((with_reducible show wpAny _ _ (call (Value.ref _) _) _ _ _); (first | ((k_here; (with_reducible show wpAny _ _ (call (Value.ref 115) _) _ _ _); k_dflt (refine' ct_useI (ipow_ct _ _ _ _ _ _ _ _ ?hqh1 ?hqh2 ?hqh3) ?kB ?kF ?kX ?kN ?kT ?kk ?kP ?kd ?ku ?_; (case hqh1 => first | assumption | (first | lia | omega)); (case hqh2 | hqh3 => (first | lia | omega)); (((case kB | kF | kX | kN | kT => k_asm); (case kk => first | exact rfl | assumption); (case kP => exact trivial); (case kd | ku => (((try dsimp only [ktrTop, Around.deeper, Around.in1] at *); (first | lia | omega)))); k_whole; intro mq_tp mq_hp mq_tkp mq_Fp mq_Np; (try dsimp only); (try k_sweep); (try k_fold)))))) | ((k_here; (with_reducible show wpAny _ _ (call (Value.ref 94) _) _ _ _); k_dflt (refine' ct_useI (mod_ct _ _ _ _ _ _ _ _ ?hqhm) ?kB ?kF ?kX ?kN ?kT ?kk ?kP ?kd ?ku ?_; (case hqhm => first | assumption | (first | lia | omega)); (((case kB | kF | kX | kN | kT => k_asm); (case kk => first | exact rfl | assumption); (case kP => exact trivial); (case kd | ku => (((try dsimp only [ktrTop, Around.deeper, Around.in1] at *); (first | lia | omega)))); k_whole; intro mq_tp mq_hp mq_tkp mq_Fp mq_Np; (try dsimp only); (try k_sweep); (try k_fold)))))) | ((k_here; (with_reducible show wpAny _ _ (call (Value.ref 101) _) _ _ _); k_dflt (refine' ct_useI (mul_ct _ _ _ _ _ _ _ _ ?hqhm) ?kB ?kF ?kX ?kN ?kT ?kk ?kP ?kd ?ku ?_; (case hqhm => first | assumption | (apply_assumption; (first | lia | omega))); (((case kB | kF | kX | kN | kT => k_asm); (case kk => first | exact rfl | assumption); (case kP => exact trivial); (case kd | ku => (((try dsimp only [ktrTop, Around.deeper, Around.in1] at *); (first | lia | omega)))); k_whole; intro mq_tp mq_hp mq_tkp mq_Fp mq_Np; (try dsimp only); (try k_sweep); (try k_fold)))))) | ((k_here; (with_reducible show wpAny _ _ (call (Value.ref 87) _) _ _ _); k_dflt (refine' ct_useI (add_ct _ _ _ _ _ _ _ _) ?kB ?kF ?kX ?kN ?kT ?kk ?kP ?kd ?ku ?_; (((case kB | kF | kX | kN | kT => k_asm); (case kk => first | exact rfl | assumption); (case kP => exact trivial); (case kd | ku => (((try dsimp only [ktrTop, Around.deeper, Around.in1] at *); (first | lia | omega)))); k_whole; intro mq_tp mq_hp mq_tkp mq_Fp mq_Np; (try dsimp only); (try k_sweep); (try k_fold)))))) | ((k_here; (with_reducible show wpAny _ _ (call (Value.ref 108) _) _ _ _); k_dflt (refine' ct_useI (countOf_ct _ _ _ _ _ _ _ _ _ _) ?kB ?kF ?kX ?kN ?kT ?kk ?kP ?kd ?ku ?_; (((case kB | kF | kX | kN | kT => k_asm); (case kk => first | exact rfl | assumption); (case kP => (first | ((refine ⟨?_, by k_mem⟩; first | assumption | exact IsWord.mono (by assumption) (by (first | exact fun _ h => h | (intro p hp; k_ownIn) | (intro p hp; exact List.mem_append.mpr (.inl hp)) | (intro p hp; exact List.mem_cons_of_mem _ (List.mem_append.mpr (.inl hp))) | (intro p hp; simp only [List.mem_append, List.mem_cons] at *; simp [hp]))))) | (first | exact trivial | assumption | exact Ws.mono (by assumption) (by (first | exact fun _ h => h | (intro p hp; k_ownIn) | (intro p hp; exact List.mem_append.mpr (.inl hp)) | (intro p hp; exact List.mem_cons_of_mem _ (List.mem_append.mpr (.inl hp))) | (intro p hp; simp only [List.mem_append, List.mem_cons] at *; simp [hp])))))); (case kd | ku => (((try dsimp only [ktrTop, Around.deeper, Around.in1] at *); (first | lia | omega)))); k_whole; intro mq_tp mq_hp mq_tkp mq_Fp mq_Np; (try dsimp only); (try k_sweep); (try k_fold)))))))) | ((with_reducible show wpAny _ _ (newTuple _) _ _ _); ((k_here; k_dflt (refine' kup_newTuple ?hqF ?hqN ?_ ?hqz; (case hqF | hqN => k_asm); (case hqz => kmk_size)); intro _ _ _ _ hq_l1; (try k_lt hq_l1); (try k_sweep)))) | ((k_here; (with_reducible show wpAny _ _ (call (Value.type _) [Value.ref _]) _ _ _); k_dflt (refine' kde_tupleOf ?hqk1 ?hqk2 ?hqk3 ?hqk4 ?hqk5 ?_; (case hqk1 | hqk2 => k_asm); (case hqk3 => exact News.isList (by k_asm) (by k_mem)); (case hqk4 => (simp only [List.size_toArray]; (first | lia | omega))); (case hqk5 => exact rfl); k_whole); intro _ _ _ _ hq_l1; (try k_lt hq_l1); (try k_sweep))) | ((with_reducible show wpAny _ _ (call (Value.builtin _) _) _ _ _); (first | ((k_here; (with_reducible show wpAny _ _ (call (Value.builtin "len") [Value.ref _]) _ _ _); k_dflt (refine' len_tupM ?hqk1 ?hqk2 ?hqk3 ?hqk4 ?_; (case hqk1 => k_asm); (case hqk2 => k_mem); (case hqk3 => first | exact IntsAre.length (by assumption) | assumption); (case hqk4 => (first | lia | omega))); k_whole)) | ((k_here; (with_reducible show wpAny _ _ (call (Value.builtin "len") [Value.ref _]) _ _ _); k_dflt (refine' len_listM ?hqk1 ?hqk2 ?hqk3 ?hqk4 ?_; (case hqk1 => k_asm); (case hqk2 => k_mem); (case hqk3 => first | exact IntsAre.length (by assumption) | assumption); (case hqk4 => (first | lia | omega))); k_whole)))))) | ((fail_if_success with_reducible (first | show wpAny _ _ (exec (Stmt.For _ _ _ _ _) _) _ _ _ | show wpAny _ _ (pyIter _) _ _ _ | show wpAny _ _ (exec (Stmt.Assign _ (Expr.ListComp _ _ _ _) _) _) _ _ _ | show wpAny _ _ (eval (Expr.ListComp _ _ _ _) _) _ _ _ | show LCg.CompSrc _ _ _ _ _ _ _ _ _ _ _ _ _ _ | show LCg.CompEnd _ _ _ _ _ _ _ _ _ _ _ _ _ _ | show LCt.CompSrcT _ _ _ _ _ _ _ _ _ _ _ _ _ _ _)); first | walk1 | (dsimp only; walk1)) | (leave1; try dsimp only) | fail))
        refine lp_end ⟨oj, Dj', some (plv i c1 c2, tp)⟩ (by k_asm) (by k_asm) (fun p hp => wo_mem1 hp) (fun p hp => wo_mem2 hp) (wo_off hoff1) (List.forall_mem_cons.mpr ⟨by with_unfolding_all rfl, List.forall_mem_nil _⟩) (by intro z h1 h2 h3; have h4 : z ≠ Str.ofString "place" ∧ z ≠ Str.ofString "worth" ∧ z ≠ Str.ofString "j" ∧ z ≠ Str.ofString "k" := (by simpa using h3); obtain ⟨h5, h6, h7, h8⟩ := h4; simp [kstB, plP, h1, h5, h6, h7, h8]) ⟨hDj, hFj.plane, by dsimp only at *; (first | lia | omega), fun _ => ⟨_, rfl⟩⟩
    · intro ci ui hi' tki hPi Fi Ni
      obtain ⟨oi, Di, pli⟩ := ci
      have hDi := hPi.1
      have hFi := hPi.2.1
      have hLi := hPi.2.2.1
      have hpl := hPi.2.2.2
      obtain ⟨tp, rfl⟩ := hpl (by (first | lia | omega))
      have hget : PySem.Spec.lookup (PyData.int (plv c0 c1 c2)) Di = some (.int (tab q c0 c1 c2)) := hFi c0 c1 c2 (Nat.le_refl _) (Nat.le_refl _) (by (first | lia | omega))
      try k_fold
      (repeat' (first | (k_unfold; (try dsimp only)) | (k_end; wrow_close) | ((with_reducible show wpAny _ _ (execs (_ :: _) _) _ _ (Shared.mk _ _ _ (_ + 1) _)); (with_reducible refine toks_cut ?_); intro _) | ((first | ((with_reducible show wpAny _ _ (subscriptTail _ _ (Value.ref _) _) _ _ _); (first | ((k_here; (with_reducible show wpAny _ _ (subscriptTail _ _ (Value.ref _) (Value.int _ _)) _ _ _); k_dflt (refine' item_refM ?hqk1 ?hqk2 ?hqk4 ?hqk5 ?hqk6 ?_; (case hqk1 => k_asm); (case hqk2 => k_mem); (case hqk4 | hqk5 => (first | lia | omega)); (case hqk6 => first | assumption | exact rfl)); k_whole)) | ((k_here; (with_reducible show wpAny _ _ (subscriptTail _ _ (Value.ref _) (Value.int _ _)) _ _ _); k_dflt (refine' dget ?hqk1 ?hqk2 ?hqk3 ?hqk4 ?hqk5 ?_; (case hqk1 => k_asm); (case hqk2 => k_mem); (case hqk3 | hqk4 => assumption); (case hqk5 => first | assumption | (apply_assumption; (first | lia | omega)))); k_whole; intro _)) | ((k_here; (with_reducible show wpAny _ _ (subscriptTail _ _ (Value.ref _) (Value.int _ _)) _ _ _); k_dflt (refine' item_listM ?hqk1 ?hqk2 ?hqk3 ?hqk4 ?hqk5 ?hqk6 ?_; (case hqk1 => k_asm); (case hqk2 => k_mem); (case hqk3 => assumption); (case hqk4 | hqk5 | hqk6 => (first | lia | omega))); k_whole; intro _)) | ((k_here; (with_reducible show wpAny _ _ (subscriptTail _ _ (Value.ref _) (Value.int _ _)) _ _ _); k_dflt (refine' item_tupM ?hqk1 ?hqk2 ?hqk3 ?hqk4 ?hqk5 ?hqk6 ?_; (case hqk1 => k_asm); (case hqk2 => k_mem); (case hqk3 => assumption); (case hqk4 | hqk5 | hqk6 => (first | lia | omega))); k_whole; intro _)))) | ((k_here; (with_reducible show wpAny _ _ (setItem (Value.ref _) (Value.int _ _) (Value.int _ _)) _ _ _); k_dflt (refine' dset ?hqF ?hqN ?hqU ?hqd ?hqz ?_; (case hqF | hqN => k_asm); (case hqU => k_updF); (case hqd => assumption); (case hqz => (first | lia | omega))); intro _ _ _ hq_Np _; (try dsimp only at hq_Np); (try k_sweep))) | ((with_reducible show wpAny _ _ (call (Value.ref _) _) _ _ _); (first | ((k_here; (with_reducible show wpAny _ _ (call (Value.ref 115) _) _ _ _); k_dflt (refine' ct_useI (ipow_ct _ _ _ _ _ _ _ _ ?hqh1 ?hqh2 ?hqh3) ?kB ?kF ?kX ?kN ?kT ?kk ?kP ?kd ?ku ?_; (case hqh1 => first | assumption | (first | lia | omega)); (case hqh2 | hqh3 => (first | lia | omega)); (((case kB | kF | kX | kN | kT => k_asm); (case kk => first | exact rfl | assumption); (case kP => exact trivial); (case kd | ku => (((try dsimp only [ktrTop, Around.deeper, Around.in1] at *); (first | lia | omega)))); k_whole; intro mq_tp mq_hp mq_tkp mq_Fp mq_Np; (try dsimp only); (try k_sweep); (try k_fold)))))) | ((k_here; (with_reducible show wpAny _ _ (call (Value.ref 94) _) _ _ _); k_dflt (refine' ct_useI (mod_ct _ _ _ _ _ _ _ _ ?hqhm) ?kB ?kF ?kX ?kN ?kT ?kk ?kP ?kd ?ku ?_; (case hqhm => first | assumption | (first | lia | omega)); (((case kB | kF | kX | kN | kT => k_asm); (case kk => first | exact rfl | assumption); (case kP => exact trivial); (case kd | ku => (((try dsimp only [ktrTop, Around.deeper, Around.in1] at *); (first | lia | omega)))); k_whole; intro mq_tp mq_hp mq_tkp mq_Fp mq_Np; (try dsimp only); (try k_sweep); (try k_fold)))))) | ((k_here; (with_reducible show wpAny _ _ (call (Value.ref 101) _) _ _ _); k_dflt (refine' ct_useI (mul_ct _ _ _ _ _ _ _ _ ?hqhm) ?kB ?kF ?kX ?kN ?kT ?kk ?kP ?kd ?ku ?_; (case hqhm => first | assumption | (apply_assumption; (first | lia | omega))); (((case kB | kF | kX | kN | kT => k_asm); (case kk => first | exact rfl | assumption); (case kP => exact trivial); (case kd | ku => (((try dsimp only [ktrTop, Around.deeper, Around.in1] at *); (first | lia | omega)))); k_whole; intro mq_tp mq_hp mq_tkp mq_Fp mq_Np; (try dsimp only); (try k_sweep); (try k_fold)))))) | ((k_here; (with_reducible show wpAny _ _ (call (Value.ref 87) _) _ _ _); k_dflt (refine' ct_useI (add_ct _ _ _ _ _ _ _ _) ?kB ?kF ?kX ?kN ?kT ?kk ?kP ?kd ?ku ?_; (((case kB | kF | kX | kN | kT => k_asm); (case kk => first | exact rfl | assumption); (case kP => exact trivial); (case kd | ku => (((try dsimp only [ktrTop, Around.deeper, Around.in1] at *); (first | lia | omega)))); k_whole; intro mq_tp mq_hp mq_tkp mq_Fp mq_Np; (try dsimp only); (try k_sweep); (try k_fold)))))) | ((k_here; (with_reducible show wpAny _ _ (call (Value.ref 108) _) _ _ _); k_dflt (refine' ct_useI (countOf_ct _ _ _ _ _ _ _ _ _ _) ?kB ?kF ?kX ?kN ?kT ?kk ?kP ?kd ?ku ?_; (((case kB | kF | kX | kN | kT => k_asm); (case kk => first | exact rfl | assumption); (case kP => (first | ((refine ⟨?_, by k_mem⟩; first | assumption | exact IsWord.mono (by assumption) (by (first | exact fun _ h => h | (intro p hp; k_ownIn) | (intro p hp; exact List.mem_append.mpr (.inl hp)) | (intro p hp; exact List.mem_cons_of_mem _ (List.mem_append.mpr (.inl hp))) | (intro p hp; simp only [List.mem_append, List.mem_cons] at *; simp [hp]))))) | (first | exact trivial | assumption | exact Ws.mono (by assumption) (by (first | exact fun _ h => h | (intro p hp; k_ownIn) | (intro p hp; exact List.mem_append.mpr (.inl hp)) | (intro p hp; exact List.mem_cons_of_mem _ (List.mem_append.mpr (.inl hp))) | (intro p hp; simp only [List.mem_append, List.mem_cons] at *; simp [hp])))))); (case kd | ku => (((try dsimp only [ktrTop, Around.deeper, Around.in1] at *); (first | lia | omega)))); k_whole; intro mq_tp mq_hp mq_tkp mq_Fp mq_Np; (try dsimp only); (try k_sweep); (try k_fold)))))))) | ((with_reducible show wpAny _ _ (newTuple _) _ _ _); ((k_here; k_dflt (refine' kup_newTuple ?hqF ?hqN ?_ ?hqz; (case hqF | hqN => k_asm); (case hqz => kmk_size)); intro _ _ _ _ hq_l1; (try k_lt hq_l1); (try k_sweep)))) | ((k_here; (with_reducible show wpAny _ _ (call (Value.type _) [Value.ref _]) _ _ _); k_dflt (refine' kde_tupleOf ?hqk1 ?hqk2 ?hqk3 ?hqk4 ?hqk5 ?_; (case hqk1 | hqk2 => k_asm); (case hqk3 => exact News.isList (by k_asm) (by k_mem)); (case hqk4 => (simp only [List.size_toArray]; (first | lia | omega))); (case hqk5 => exact rfl); k_whole); intro _ _ _ _ hq_l1; (try k_lt hq_l1); (try k_sweep))) | ((with_reducible show wpAny _ _ (call (Value.builtin _) _) _ _ _); (first | ((k_here; (with_reducible show wpAny _ _ (call (Value.builtin "len") [Value.ref _]) _ _ _); k_dflt (refine' len_tupM ?hqk1 ?hqk2 ?hqk3 ?hqk4 ?_; (case hqk1 => k_asm); (case hqk2 => k_mem); (case hqk3 => first | exact IntsAre.length (by assumption) | assumption); (case hqk4 => (first | lia | omega))); k_whole)) | ((k_here; (with_reducible show wpAny _ _ (call (Value.builtin "len") [Value.ref _]) _ _ _); k_dflt (refine' len_listM ?hqk1 ?hqk2 ?hqk3 ?hqk4 ?_; (case hqk1 => k_asm); (case hqk2 => k_mem); (case hqk3 => first | exact IntsAre.length (by assumption) | assumption); (case hqk4 => (first | lia | omega))); k_whole)))))) | ((fail_if_success with_reducible (first | show wpAny _ _ (exec (Stmt.For _ _ _ _ _) _) _ _ _ | show wpAny _ _ (pyIter _) _ _ _ | show wpAny _ _ (exec (Stmt.Assign _ (Expr.ListComp _ _ _ _) _) _) _ _ _ | show wpAny _ _ (eval (Expr.ListComp _ _ _ _) _) _ _ _ | show LCg.CompSrc _ _ _ _ _ _ _ _ _ _ _ _ _ _ | show LCg.CompEnd _ _ _ _ _ _ _ _ _ _ _ _ _ _ | show LCt.CompSrcT _ _ _ _ _ _ _ _ _ _ _ _ _ _ _)); first | walk1 | (dsimp only; walk1)) | (leave1; try dsimp only) | fail))
      exact hret _ [] _ _ (by k_asm) (kst_newsOf (by assumption) (fun p hp => .tail _ (hRn p hp))) (fun _ _ _ h => nomatch h) ⟨rfl, _, rfl⟩
/-- the numbers F(0) = 1, F(1) .. F(7) -/
def cyc (q : Int) : List Int := [1, q - 1, q + 1, q * q + q + 1, q * q + 1, q * q * q * q + q * q * q + q * q + q + 1, q * q - q + 1, q * q * q * q * q * q + q * q * q * q * q + q * q * q * q + q * q * q + q * q + q + 1]
/-- what the inner loop of _law_factors has after d turns -/
def inF (q : Int) (s : Nat) : Nat → Int
  | 0 => q ^ s - 1
  | d + 1 => if (s : Int).fmod (1 + (d : Int)) = 0 then (inF q s d).fdiv ((cyc q).getD (d + 1) 0) else inF q s d
structure FaSt where
  vs : List Value
  k : Nat
theorem fa_mem1 {p a : Addr × Obj} {R own : Led} (h : p ∈ a :: R) : p ∈ a :: (R ++ own) := by
  rcases List.mem_cons.mp h with h | h
  · exact h ▸ .head _
  · exact .tail _ (List.mem_append.mpr (.inl h))
theorem fa_mem2 {p a : Addr × Obj} {R own : Led} (h : p ∈ own) : p ∈ a :: (R ++ own) := .tail _ (List.mem_append.mpr (.inr h))
theorem fa_off {td : Addr} {o o2 : Obj} {R own : Led} (h : OwnOff own (((td, o) :: R).map (·.1))) : OwnOff own (((td, o2) :: R).map (·.1)) := h
theorem log2_small {y : Int} (h : y.natAbs < 2 ^ 100) : y.natAbs.log2 < 9000 := by
  by_cases h0 : y.natAbs = 0
  · rw [h0]; decide +kernel
  · have h30 : y.natAbs.log2 < 100 := (Nat.log2_lt h0).mpr h
    (first | lia | omega)
theorem factors_ct (w : World) (mean : ExcName → Option Value) (mg mb : Str → Option Value) (q : Int) (tq : Tok) (hq : q.natAbs ≤ 2000) (hnz : ∀ d : Nat, d < 8 → (cyc q).getD d 0 ≠ 0) (hbd : ∀ d : Nat, d < 8 → ((cyc q).getD d 0).natAbs < 2 ^ 100) (hin : ∀ i : Nat, i < 7 → inF q (i + 1) i = (cyc q).getD (i + 1) 0) :
   Ct w mean mg mb 142 2 [.int q tq] (fun news => True)
    (fun news tl r => ∃ la vs k, r = .ref la ∧ (la, listOf vs.toArray k) ∈ tl ∧ IntsAre vs (cyc q)) := by
  unfold Ct
  k_fill
  intro dp un gd cs' cs a ccd cl outer A₀ base h₀ L m news s Q E B F X N T hk hP hd hu hret
  refine wpAny_call ?_
  k_dflt ktr_enter
  rename Fr _ _ _ (fun y => List.lookup y _) => lF
  with_unfolding_all replace lF := fr_of_lookup (l := [(Str.ofString "q", .int q tq)]) lF
  (repeat' (first | (k_unfold; (try dsimp only)) | (k_end; wrow_close) | ((with_reducible show wpAny _ _ (execs (_ :: _) _) _ _ (Shared.mk _ _ _ (_ + 1) _)); (with_reducible refine toks_cut ?_); intro _) | ((first | ((with_reducible show wpAny _ _ (binaryOp Operator.FloorDiv (Value.int _ _) (Value.int _ _)) _ _ _); ((k_here; k_dflt (refine' PyProof.Rows.floordiv_int ?hqhb ?_ (Or.inl (PyProof.noPylong_of_log2 ?hqp)); (case hqhb | hqp => assumption)); k_whole))) | ((with_reducible show wpAny _ _ (newTuple _) _ _ _); ((k_here; k_dflt (refine' kup_newTuple ?hqF ?hqN ?_ ?hqz; (case hqF | hqN => k_asm); (case hqz => kmk_size)); intro _ _ _ _ hq_l1; (try k_lt hq_l1); (try k_sweep)))) | ((k_here; (with_reducible show wpAny _ _ (call (Value.type _) [Value.ref _]) _ _ _); k_dflt (refine' kde_tupleOf ?hqk1 ?hqk2 ?hqk3 ?hqk4 ?hqk5 ?_; (case hqk1 | hqk2 => k_asm); (case hqk3 => exact News.isList (by k_asm) (by k_mem)); (case hqk4 => (simp only [List.size_toArray]; (first | lia | omega))); (case hqk5 => exact rfl); k_whole); intro _ _ _ _ hq_l1; (try k_lt hq_l1); (try k_sweep))) | ((with_reducible show wpAny _ _ (subscriptTail _ _ (Value.ref _) _) _ _ _); (first | ((k_here; (with_reducible show wpAny _ _ (subscriptTail _ _ (Value.ref _) (Value.int _ _)) _ _ _); k_dflt (refine' item_listM ?hqk1 ?hqk2 ?hqk3 ?hqk4 ?hqk5 ?hqk6 ?_; (case hqk1 => k_asm); (case hqk2 => k_mem); (case hqk3 => assumption); (case hqk4 | hqk5 | hqk6 => (first | lia | omega))); k_whole; intro _)) | ((k_here; (with_reducible show wpAny _ _ (subscriptTail _ _ (Value.ref _) (Value.int _ _)) _ _ _); k_dflt (refine' item_tupM ?hqk1 ?hqk2 ?hqk3 ?hqk4 ?hqk5 ?hqk6 ?_; (case hqk1 => k_asm); (case hqk2 => k_mem); (case hqk3 => assumption); (case hqk4 | hqk5 | hqk6 => (first | lia | omega))); k_whole; intro _)))) | ((with_reducible show wpAny _ _ (call (Value.builtin _) _) _ _ _); (first | ((k_here; (with_reducible show wpAny _ _ (call (Value.builtin "len") [Value.ref _]) _ _ _); k_dflt (refine' len_tupM ?hqk1 ?hqk2 ?hqk3 ?hqk4 ?_; (case hqk1 => k_asm); (case hqk2 => k_mem); (case hqk3 => first | exact IntsAre.length (by assumption) | assumption); (case hqk4 => (first | lia | omega))); k_whole)) | ((k_here; (with_reducible show wpAny _ _ (call (Value.builtin "len") [Value.ref _]) _ _ _); k_dflt (refine' len_listM ?hqk1 ?hqk2 ?hqk3 ?hqk4 ?_; (case hqk1 => k_asm); (case hqk2 => k_mem); (case hqk3 => first | exact IntsAre.length (by assumption) | assumption); (case hqk4 => (first | lia | omega))); k_whole)))))) | ((fail_if_success with_reducible (first | show wpAny _ _ (exec (Stmt.For _ _ _ _ _) _) _ _ _ | show wpAny _ _ (pyIter _) _ _ _ | show wpAny _ _ (exec (Stmt.Assign _ (Expr.ListComp _ _ _ _) _) _) _ _ _ | show wpAny _ _ (eval (Expr.ListComp _ _ _ _) _) _ _ _ | show LCg.CompSrc _ _ _ _ _ _ _ _ _ _ _ _ _ _ | show LCg.CompEnd _ _ _ _ _ _ _ _ _ _ _ _ _ _ | show LCt.CompSrcT _ _ _ _ _ _ _ _ _ _ _ _ _ _ _)); first | walk1 | (dsimp only; walk1)) | (leave1; try dsimp only) | fail))
  rename Fr _ _ _ _ => lF
  with_unfolding_all refine' For_invVF lF (by exact rfl) (by exact rfl) ?_
  (repeat' (first | (k_unfold; (try dsimp only)) | (k_end; wrow_close) | ((with_reducible show wpAny _ _ (execs (_ :: _) _) _ _ (Shared.mk _ _ _ (_ + 1) _)); (with_reducible refine toks_cut ?_); intro _) | ((first | ((with_reducible show wpAny _ _ (binaryOp Operator.FloorDiv (Value.int _ _) (Value.int _ _)) _ _ _); ((k_here; k_dflt (refine' PyProof.Rows.floordiv_int ?hqhb ?_ (Or.inl (PyProof.noPylong_of_log2 ?hqp)); (case hqhb | hqp => assumption)); k_whole))) | ((with_reducible show wpAny _ _ (newTuple _) _ _ _); ((k_here; k_dflt (refine' kup_newTuple ?hqF ?hqN ?_ ?hqz; (case hqF | hqN => k_asm); (case hqz => kmk_size)); intro _ _ _ _ hq_l1; (try k_lt hq_l1); (try k_sweep)))) | ((k_here; (with_reducible show wpAny _ _ (call (Value.type _) [Value.ref _]) _ _ _); k_dflt (refine' kde_tupleOf ?hqk1 ?hqk2 ?hqk3 ?hqk4 ?hqk5 ?_; (case hqk1 | hqk2 => k_asm); (case hqk3 => exact News.isList (by k_asm) (by k_mem)); (case hqk4 => (simp only [List.size_toArray]; (first | lia | omega))); (case hqk5 => exact rfl); k_whole); intro _ _ _ _ hq_l1; (try k_lt hq_l1); (try k_sweep))) | ((with_reducible show wpAny _ _ (subscriptTail _ _ (Value.ref _) _) _ _ _); (first | ((k_here; (with_reducible show wpAny _ _ (subscriptTail _ _ (Value.ref _) (Value.int _ _)) _ _ _); k_dflt (refine' item_listM ?hqk1 ?hqk2 ?hqk3 ?hqk4 ?hqk5 ?hqk6 ?_; (case hqk1 => k_asm); (case hqk2 => k_mem); (case hqk3 => assumption); (case hqk4 | hqk5 | hqk6 => (first | lia | omega))); k_whole; intro _)) | ((k_here; (with_reducible show wpAny _ _ (subscriptTail _ _ (Value.ref _) (Value.int _ _)) _ _ _); k_dflt (refine' item_tupM ?hqk1 ?hqk2 ?hqk3 ?hqk4 ?hqk5 ?hqk6 ?_; (case hqk1 => k_asm); (case hqk2 => k_mem); (case hqk3 => assumption); (case hqk4 | hqk5 | hqk6 => (first | lia | omega))); k_whole; intro _)))) | ((with_reducible show wpAny _ _ (call (Value.builtin _) _) _ _ _); (first | ((k_here; (with_reducible show wpAny _ _ (call (Value.builtin "len") [Value.ref _]) _ _ _); k_dflt (refine' len_tupM ?hqk1 ?hqk2 ?hqk3 ?hqk4 ?_; (case hqk1 => k_asm); (case hqk2 => k_mem); (case hqk3 => first | exact IntsAre.length (by assumption) | assumption); (case hqk4 => (first | lia | omega))); k_whole)) | ((k_here; (with_reducible show wpAny _ _ (call (Value.builtin "len") [Value.ref _]) _ _ _); k_dflt (refine' len_listM ?hqk1 ?hqk2 ?hqk3 ?hqk4 ?_; (case hqk1 => k_asm); (case hqk2 => k_mem); (case hqk3 => first | exact IntsAre.length (by assumption) | assumption); (case hqk4 => (first | lia | omega))); k_whole)))))) | ((fail_if_success with_reducible (first | show wpAny _ _ (exec (Stmt.For _ _ _ _ _) _) _ _ _ | show wpAny _ _ (pyIter _) _ _ _ | show wpAny _ _ (exec (Stmt.Assign _ (Expr.ListComp _ _ _ _) _) _) _ _ _ | show wpAny _ _ (eval (Expr.ListComp _ _ _ _) _) _ _ _ | show LCg.CompSrc _ _ _ _ _ _ _ _ _ _ _ _ _ _ | show LCg.CompEnd _ _ _ _ _ _ _ _ _ _ _ _ _ _ | show LCt.CompSrcT _ _ _ _ _ _ _ _ _ _ _ _ _ _ _)); first | walk1 | (dsimp only; walk1)) | (leave1; try dsimp only) | fail))
  rename Fr _ _ _ _ => lF
  rename News _ _ _ _ => lN
  rename IsRange _ _ _ _ _ _ _ _ => hR
  rename (∀ p ∈ news, p.1 < _) => hl1
  obtain ⟨la, hla⟩ := pickA hl1
  subst hla
  have hcl : (cyc q).length = 8 := rfl
  have hne0 : ∀ p ∈ news, p.1 ≠ la := fun p hp => Nat.ne_of_lt (hl1 p hp)
  have hq64 : q.natAbs < 2 ^ 64 := by (first | lia | omega)
  with_unfolding_all refine lp_range (σ := FaSt) (n := 7) (fun c => (la, listOf c.vs.toArray c.k) :: news) (fun c => []) [Str.ofString "factor", Str.ofString "divisor"] (fun i c => IntsAre c.vs ((cyc q).take (i + 1))) ⟨[.int 1 _], 0⟩ (by exact rfl) hR (small_of (by (first | lia | omega)) (by (first | lia | omega)) (by (first | lia | omega)) (by (first | lia | omega))) (by rw [rangeSize_nat]; rfl) lF lN (List.forall_mem_nil _) (.cons _ _ .nil) ?_ ?_
  · intro ci i ti ui hi' tki own1 hi hoff1 hPi Fi Ni
    simp only [List.cons_append] at Ni
    have hne1 : ∀ p ∈ news ++ own1, p.1 ≠ la := ne_app hne0 (fun p hp => hoff1 p hp la (by simp))
    have hlt : ((cyc q).take (i + 1)).length = i + 1 := by rw [List.length_take, hcl]; (first | lia | omega)
    try k_fold
    (repeat' (first | (k_unfold; (try dsimp only)) | (k_end; wrow_close) | ((with_reducible show wpAny _ _ (execs (_ :: _) _) _ _ (Shared.mk _ _ _ (_ + 1) _)); (with_reducible refine toks_cut ?_); intro _) | ((first | ((with_reducible show wpAny _ _ (binaryOp Operator.FloorDiv (Value.int _ _) (Value.int _ _)) _ _ _); ((k_here; k_dflt (refine' PyProof.Rows.floordiv_int ?hqhb ?_ (Or.inl (PyProof.noPylong_of_log2 ?hqp)); (case hqhb | hqp => assumption)); k_whole))) | ((with_reducible show wpAny _ _ (newTuple _) _ _ _); ((k_here; k_dflt (refine' kup_newTuple ?hqF ?hqN ?_ ?hqz; (case hqF | hqN => k_asm); (case hqz => kmk_size)); intro _ _ _ _ hq_l1; (try k_lt hq_l1); (try k_sweep)))) | ((k_here; (with_reducible show wpAny _ _ (call (Value.type _) [Value.ref _]) _ _ _); k_dflt (refine' kde_tupleOf ?hqk1 ?hqk2 ?hqk3 ?hqk4 ?hqk5 ?_; (case hqk1 | hqk2 => k_asm); (case hqk3 => exact News.isList (by k_asm) (by k_mem)); (case hqk4 => (simp only [List.size_toArray]; (first | lia | omega))); (case hqk5 => exact rfl); k_whole); intro _ _ _ _ hq_l1; (try k_lt hq_l1); (try k_sweep))) | ((with_reducible show wpAny _ _ (subscriptTail _ _ (Value.ref _) _) _ _ _); (first | ((k_here; (with_reducible show wpAny _ _ (subscriptTail _ _ (Value.ref _) (Value.int _ _)) _ _ _); k_dflt (refine' item_listM ?hqk1 ?hqk2 ?hqk3 ?hqk4 ?hqk5 ?hqk6 ?_; (case hqk1 => k_asm); (case hqk2 => k_mem); (case hqk3 => assumption); (case hqk4 | hqk5 | hqk6 => (first | lia | omega))); k_whole; intro _)) | ((k_here; (with_reducible show wpAny _ _ (subscriptTail _ _ (Value.ref _) (Value.int _ _)) _ _ _); k_dflt (refine' item_tupM ?hqk1 ?hqk2 ?hqk3 ?hqk4 ?hqk5 ?hqk6 ?_; (case hqk1 => k_asm); (case hqk2 => k_mem); (case hqk3 => assumption); (case hqk4 | hqk5 | hqk6 => (first | lia | omega))); k_whole; intro _)))) | ((with_reducible show wpAny _ _ (call (Value.builtin _) _) _ _ _); (first | ((k_here; (with_reducible show wpAny _ _ (call (Value.builtin "len") [Value.ref _]) _ _ _); k_dflt (refine' len_tupM ?hqk1 ?hqk2 ?hqk3 ?hqk4 ?_; (case hqk1 => k_asm); (case hqk2 => k_mem); (case hqk3 => first | exact IntsAre.length (by assumption) | assumption); (case hqk4 => (first | lia | omega))); k_whole)) | ((k_here; (with_reducible show wpAny _ _ (call (Value.builtin "len") [Value.ref _]) _ _ _); k_dflt (refine' len_listM ?hqk1 ?hqk2 ?hqk3 ?hqk4 ?_; (case hqk1 => k_asm); (case hqk2 => k_mem); (case hqk3 => first | exact IntsAre.length (by assumption) | assumption); (case hqk4 => (first | lia | omega))); k_whole)))))) | ((fail_if_success with_reducible (first | show wpAny _ _ (exec (Stmt.For _ _ _ _ _) _) _ _ _ | show wpAny _ _ (pyIter _) _ _ _ | show wpAny _ _ (exec (Stmt.Assign _ (Expr.ListComp _ _ _ _) _) _) _ _ _ | show wpAny _ _ (eval (Expr.ListComp _ _ _ _) _) _ _ _ | show LCg.CompSrc _ _ _ _ _ _ _ _ _ _ _ _ _ _ | show LCg.CompEnd _ _ _ _ _ _ _ _ _ _ _ _ _ _ | show LCt.CompSrcT _ _ _ _ _ _ _ _ _ _ _ _ _ _ _)); first | walk1 | (dsimp only; walk1)) | (leave1; try dsimp only) | fail))
    rename Fr _ _ _ _ => lF
    with_unfolding_all refine' For_invVF lF (by exact rfl) (by exact rfl) ?_
    (repeat' (first | (k_unfold; (try dsimp only)) | (k_end; wrow_close) | ((with_reducible show wpAny _ _ (execs (_ :: _) _) _ _ (Shared.mk _ _ _ (_ + 1) _)); (with_reducible refine toks_cut ?_); intro _) | ((first | ((with_reducible show wpAny _ _ (binaryOp Operator.FloorDiv (Value.int _ _) (Value.int _ _)) _ _ _); ((k_here; k_dflt (refine' PyProof.Rows.floordiv_int ?hqhb ?_ (Or.inl (PyProof.noPylong_of_log2 ?hqp)); (case hqhb | hqp => assumption)); k_whole))) | ((with_reducible show wpAny _ _ (newTuple _) _ _ _); ((k_here; k_dflt (refine' kup_newTuple ?hqF ?hqN ?_ ?hqz; (case hqF | hqN => k_asm); (case hqz => kmk_size)); intro _ _ _ _ hq_l1; (try k_lt hq_l1); (try k_sweep)))) | ((k_here; (with_reducible show wpAny _ _ (call (Value.type _) [Value.ref _]) _ _ _); k_dflt (refine' kde_tupleOf ?hqk1 ?hqk2 ?hqk3 ?hqk4 ?hqk5 ?_; (case hqk1 | hqk2 => k_asm); (case hqk3 => exact News.isList (by k_asm) (by k_mem)); (case hqk4 => (simp only [List.size_toArray]; (first | lia | omega))); (case hqk5 => exact rfl); k_whole); intro _ _ _ _ hq_l1; (try k_lt hq_l1); (try k_sweep))) | ((with_reducible show wpAny _ _ (subscriptTail _ _ (Value.ref _) _) _ _ _); (first | ((k_here; (with_reducible show wpAny _ _ (subscriptTail _ _ (Value.ref _) (Value.int _ _)) _ _ _); k_dflt (refine' item_listM ?hqk1 ?hqk2 ?hqk3 ?hqk4 ?hqk5 ?hqk6 ?_; (case hqk1 => k_asm); (case hqk2 => k_mem); (case hqk3 => assumption); (case hqk4 | hqk5 | hqk6 => (first | lia | omega))); k_whole; intro _)) | ((k_here; (with_reducible show wpAny _ _ (subscriptTail _ _ (Value.ref _) (Value.int _ _)) _ _ _); k_dflt (refine' item_tupM ?hqk1 ?hqk2 ?hqk3 ?hqk4 ?hqk5 ?hqk6 ?_; (case hqk1 => k_asm); (case hqk2 => k_mem); (case hqk3 => assumption); (case hqk4 | hqk5 | hqk6 => (first | lia | omega))); k_whole; intro _)))) | ((with_reducible show wpAny _ _ (call (Value.builtin _) _) _ _ _); (first | ((k_here; (with_reducible show wpAny _ _ (call (Value.builtin "len") [Value.ref _]) _ _ _); k_dflt (refine' len_tupM ?hqk1 ?hqk2 ?hqk3 ?hqk4 ?_; (case hqk1 => k_asm); (case hqk2 => k_mem); (case hqk3 => first | exact IntsAre.length (by assumption) | assumption); (case hqk4 => (first | lia | omega))); k_whole)) | ((k_here; (with_reducible show wpAny _ _ (call (Value.builtin "len") [Value.ref _]) _ _ _); k_dflt (refine' len_listM ?hqk1 ?hqk2 ?hqk3 ?hqk4 ?_; (case hqk1 => k_asm); (case hqk2 => k_mem); (case hqk3 => first | exact IntsAre.length (by assumption) | assumption); (case hqk4 => (first | lia | omega))); k_whole)))))) | ((fail_if_success with_reducible (first | show wpAny _ _ (exec (Stmt.For _ _ _ _ _) _) _ _ _ | show wpAny _ _ (pyIter _) _ _ _ | show wpAny _ _ (exec (Stmt.Assign _ (Expr.ListComp _ _ _ _) _) _) _ _ _ | show wpAny _ _ (eval (Expr.ListComp _ _ _ _) _) _ _ _ | show LCg.CompSrc _ _ _ _ _ _ _ _ _ _ _ _ _ _ | show LCg.CompEnd _ _ _ _ _ _ _ _ _ _ _ _ _ _ | show LCt.CompSrcT _ _ _ _ _ _ _ _ _ _ _ _ _ _ _)); first | walk1 | (dsimp only; walk1)) | (leave1; try dsimp only) | fail))
    rename Fr _ _ _ _ => lF
    rename News _ _ _ _ => lN
    rename IsRange _ _ _ _ _ _ _ _ => hR
    with_unfolding_all refine lp_range (σ := Int × Tok) (n := i) (fun c => (la, listOf ci.vs.toArray ci.k) :: (news ++ own1)) (fun c => [(Str.ofString "factor", .int c.1 c.2)]) [] (fun d c => c.1 = inF q (i + 1) d) (q ^ (1 + (i : Int)).toNat - 1, _) (by exact rfl) hR (small_of (by (first | lia | omega)) (by (first | lia | omega)) (by (first | lia | omega)) (by (first | lia | omega))) (by rw [rangeSize_nat]; (first | lia | omega)) lF lN (List.forall_mem_cons.mpr ⟨by with_unfolding_all rfl, List.forall_mem_nil _⟩) (by show q ^ (1 + (i : Int)).toNat - 1 = q ^ (i + 1) - 1; rw [show (1 + (i : Int)).toNat = i + 1 by (first | lia | omega)]) ?_ ?_
    · intro cd d td ud hd' tkd own2 hdi hoff2 hPd Fd Nd
      simp only [List.cons_append] at Nd
      have hg : ((cyc q).take (i + 1)).getD (1 + (d : Int)).toNat 0 = (cyc q).getD (d + 1) 0 := by
        rw [show (1 + (d : Int)).toNat = d + 1 by (first | lia | omega)]
        simp [List.getD, List.getElem?_take, hdi]
      have hz : ((cyc q).take (i + 1)).getD (1 + (d : Int)).toNat 0 ≠ 0 := by rw [hg]; exact hnz _ (by (first | lia | omega))
      have hlg : (((cyc q).take (i + 1)).getD (1 + (d : Int)).toNat 0).natAbs.log2 < 9000 := by rw [hg]; exact log2_small (hbd _ (by (first | lia | omega)))
      have hd0 : (1 + (d : Int)) ≠ 0 := by (first | lia | omega)
      have hsi : ((i + 1 : Nat) : Int) = 1 + (i : Int) := by (first | lia | omega)
      try k_fold
      (repeat' (first | (k_unfold; (try dsimp only)) | (k_end; wrow_close) | ((with_reducible show wpAny _ _ (execs (_ :: _) _) _ _ (Shared.mk _ _ _ (_ + 1) _)); (with_reducible refine toks_cut ?_); intro _) | ((first | ((with_reducible show wpAny _ _ (binaryOp Operator.FloorDiv (Value.int _ _) (Value.int _ _)) _ _ _); ((k_here; k_dflt (refine' PyProof.Rows.floordiv_int ?hqhb ?_ (Or.inl (PyProof.noPylong_of_log2 ?hqp)); (case hqhb | hqp => assumption)); k_whole))) | ((with_reducible show wpAny _ _ (newTuple _) _ _ _); ((k_here; k_dflt (refine' kup_newTuple ?hqF ?hqN ?_ ?hqz; (case hqF | hqN => k_asm); (case hqz => kmk_size)); intro _ _ _ _ hq_l1; (try k_lt hq_l1); (try k_sweep)))) | ((k_here; (with_reducible show wpAny _ _ (call (Value.type _) [Value.ref _]) _ _ _); k_dflt (refine' kde_tupleOf ?hqk1 ?hqk2 ?hqk3 ?hqk4 ?hqk5 ?_; (case hqk1 | hqk2 => k_asm); (case hqk3 => exact News.isList (by k_asm) (by k_mem)); (case hqk4 => (simp only [List.size_toArray]; (first | lia | omega))); (case hqk5 => exact rfl); k_whole); intro _ _ _ _ hq_l1; (try k_lt hq_l1); (try k_sweep))) | ((with_reducible show wpAny _ _ (subscriptTail _ _ (Value.ref _) _) _ _ _); (first | ((k_here; (with_reducible show wpAny _ _ (subscriptTail _ _ (Value.ref _) (Value.int _ _)) _ _ _); k_dflt (refine' item_listM ?hqk1 ?hqk2 ?hqk3 ?hqk4 ?hqk5 ?hqk6 ?_; (case hqk1 => k_asm); (case hqk2 => k_mem); (case hqk3 => assumption); (case hqk4 | hqk5 | hqk6 => (first | lia | omega))); k_whole; intro _)) | ((k_here; (with_reducible show wpAny _ _ (subscriptTail _ _ (Value.ref _) (Value.int _ _)) _ _ _); k_dflt (refine' item_tupM ?hqk1 ?hqk2 ?hqk3 ?hqk4 ?hqk5 ?hqk6 ?_; (case hqk1 => k_asm); (case hqk2 => k_mem); (case hqk3 => assumption); (case hqk4 | hqk5 | hqk6 => (first | lia | omega))); k_whole; intro _)))) | ((with_reducible show wpAny _ _ (call (Value.builtin _) _) _ _ _); (first | ((k_here; (with_reducible show wpAny _ _ (call (Value.builtin "len") [Value.ref _]) _ _ _); k_dflt (refine' len_tupM ?hqk1 ?hqk2 ?hqk3 ?hqk4 ?_; (case hqk1 => k_asm); (case hqk2 => k_mem); (case hqk3 => first | exact IntsAre.length (by assumption) | assumption); (case hqk4 => (first | lia | omega))); k_whole)) | ((k_here; (with_reducible show wpAny _ _ (call (Value.builtin "len") [Value.ref _]) _ _ _); k_dflt (refine' len_listM ?hqk1 ?hqk2 ?hqk3 ?hqk4 ?_; (case hqk1 => k_asm); (case hqk2 => k_mem); (case hqk3 => first | exact IntsAre.length (by assumption) | assumption); (case hqk4 => (first | lia | omega))); k_whole)))))) | ((fail_if_success with_reducible (first | show wpAny _ _ (exec (Stmt.For _ _ _ _ _) _) _ _ _ | show wpAny _ _ (pyIter _) _ _ _ | show wpAny _ _ (exec (Stmt.Assign _ (Expr.ListComp _ _ _ _) _) _) _ _ _ | show wpAny _ _ (eval (Expr.ListComp _ _ _ _) _) _ _ _ | show LCg.CompSrc _ _ _ _ _ _ _ _ _ _ _ _ _ _ | show LCg.CompEnd _ _ _ _ _ _ _ _ _ _ _ _ _ _ | show LCt.CompSrcT _ _ _ _ _ _ _ _ _ _ _ _ _ _ _)); first | walk1 | (dsimp only; walk1)) | (leave1; try dsimp only) | fail))
      · have hmod : (1 + (i : Int)).fmod (1 + (d : Int)) = 0 := by first | assumption | simp_all
        refine lp_end (_, _) (by k_asm) (by k_asm) (fun p hp => fa_mem1 hp) (fun p hp => fa_mem2 hp) hoff2 (List.forall_mem_cons.mpr ⟨by with_unfolding_all rfl, List.forall_mem_nil _⟩) (by ((intro mq_z mq_h1 mq_h2 mq_h3; (try simp only [List.forall_mem_cons] at mq_h2); first | (simp [kstB, mq_h1, mq_h2, mq_h3]; done) | (simp [kstB, mq_h1, mq_h2]; done) | (simp [kstB, mq_h1]; done) | (simp_all [kstB]; done)))) ?_
        show _ = if _ then _ else _
        rw [hsi, if_pos hmod, ← hPd, ← hg]
        rfl
      · have hmod : ¬ (1 + (i : Int)).fmod (1 + (d : Int)) = 0 := by first | assumption | simp_all
        refine lp_end (_, _) (by k_asm) (by k_asm) (fun p hp => fa_mem1 hp) (fun p hp => fa_mem2 hp) hoff2 (List.forall_mem_cons.mpr ⟨by with_unfolding_all rfl, List.forall_mem_nil _⟩) (by ((intro mq_z mq_h1 mq_h2 mq_h3; (try simp only [List.forall_mem_cons] at mq_h2); first | (simp [kstB, mq_h1, mq_h2, mq_h3]; done) | (simp [kstB, mq_h1, mq_h2]; done) | (simp [kstB, mq_h1]; done) | (simp_all [kstB]; done)))) ?_
        show _ = if _ then _ else _
        rw [hsi, if_neg hmod, ← hPd]
    · intro cd ud hd' tkd hPd Fd Nd
      have hvl := hPi.length
      try k_fold
      (repeat' (first | (k_unfold; (try dsimp only)) | (k_end; wrow_close) | ((with_reducible show wpAny _ _ (execs (_ :: _) _) _ _ (Shared.mk _ _ _ (_ + 1) _)); (with_reducible refine toks_cut ?_); intro _) | ((first | ((with_reducible show wpAny _ _ (binaryOp Operator.FloorDiv (Value.int _ _) (Value.int _ _)) _ _ _); ((k_here; k_dflt (refine' PyProof.Rows.floordiv_int ?hqhb ?_ (Or.inl (PyProof.noPylong_of_log2 ?hqp)); (case hqhb | hqp => assumption)); k_whole))) | ((with_reducible show wpAny _ _ (newTuple _) _ _ _); ((k_here; k_dflt (refine' kup_newTuple ?hqF ?hqN ?_ ?hqz; (case hqF | hqN => k_asm); (case hqz => kmk_size)); intro _ _ _ _ hq_l1; (try k_lt hq_l1); (try k_sweep)))) | ((k_here; (with_reducible show wpAny _ _ (call (Value.type _) [Value.ref _]) _ _ _); k_dflt (refine' kde_tupleOf ?hqk1 ?hqk2 ?hqk3 ?hqk4 ?hqk5 ?_; (case hqk1 | hqk2 => k_asm); (case hqk3 => exact News.isList (by k_asm) (by k_mem)); (case hqk4 => (simp only [List.size_toArray]; (first | lia | omega))); (case hqk5 => exact rfl); k_whole); intro _ _ _ _ hq_l1; (try k_lt hq_l1); (try k_sweep))) | ((with_reducible show wpAny _ _ (subscriptTail _ _ (Value.ref _) _) _ _ _); (first | ((k_here; (with_reducible show wpAny _ _ (subscriptTail _ _ (Value.ref _) (Value.int _ _)) _ _ _); k_dflt (refine' item_listM ?hqk1 ?hqk2 ?hqk3 ?hqk4 ?hqk5 ?hqk6 ?_; (case hqk1 => k_asm); (case hqk2 => k_mem); (case hqk3 => assumption); (case hqk4 | hqk5 | hqk6 => (first | lia | omega))); k_whole; intro _)) | ((k_here; (with_reducible show wpAny _ _ (subscriptTail _ _ (Value.ref _) (Value.int _ _)) _ _ _); k_dflt (refine' item_tupM ?hqk1 ?hqk2 ?hqk3 ?hqk4 ?hqk5 ?hqk6 ?_; (case hqk1 => k_asm); (case hqk2 => k_mem); (case hqk3 => assumption); (case hqk4 | hqk5 | hqk6 => (first | lia | omega))); k_whole; intro _)))) | ((with_reducible show wpAny _ _ (call (Value.builtin _) _) _ _ _); (first | ((k_here; (with_reducible show wpAny _ _ (call (Value.builtin "len") [Value.ref _]) _ _ _); k_dflt (refine' len_tupM ?hqk1 ?hqk2 ?hqk3 ?hqk4 ?_; (case hqk1 => k_asm); (case hqk2 => k_mem); (case hqk3 => first | exact IntsAre.length (by assumption) | assumption); (case hqk4 => (first | lia | omega))); k_whole)) | ((k_here; (with_reducible show wpAny _ _ (call (Value.builtin "len") [Value.ref _]) _ _ _); k_dflt (refine' len_listM ?hqk1 ?hqk2 ?hqk3 ?hqk4 ?_; (case hqk1 => k_asm); (case hqk2 => k_mem); (case hqk3 => first | exact IntsAre.length (by assumption) | assumption); (case hqk4 => (first | lia | omega))); k_whole)))))) | ((fail_if_success with_reducible (first | show wpAny _ _ (exec (Stmt.For _ _ _ _ _) _) _ _ _ | show wpAny _ _ (pyIter _) _ _ _ | show wpAny _ _ (exec (Stmt.Assign _ (Expr.ListComp _ _ _ _) _) _) _ _ _ | show wpAny _ _ (eval (Expr.ListComp _ _ _ _) _) _ _ _ | show LCg.CompSrc _ _ _ _ _ _ _ _ _ _ _ _ _ _ | show LCg.CompEnd _ _ _ _ _ _ _ _ _ _ _ _ _ _ | show LCt.CompSrcT _ _ _ _ _ _ _ _ _ _ _ _ _ _ _)); first | walk1 | (dsimp only; walk1)) | (leave1; try dsimp only) | fail))
      rename News _ _ _ _ => lN2
      simp only [List.push_toArray] at lN2
      refine lp_end ⟨_, _⟩ (by k_asm) lN2 (fun p hp => fa_mem1 hp) (fun p hp => fa_mem2 hp) (fa_off hoff1) (List.forall_mem_nil _) (by intro z h1 h2 h3; have h4 : z ≠ Str.ofString "factor" ∧ z ≠ Str.ofString "divisor" := (by simpa using h3); obtain ⟨h5, h6⟩ := h4; simp [kstB, h1, h5, h6]) ?_
      have e : (cyc q).take (i + 1 + 1) = (cyc q).take (i + 1) ++ [cd.1] := by
        rw [List.take_add_one, List.getElem?_eq_getElem (by (first | lia | omega)), Option.toList_some, hPd, hin i hi]
        simp [List.getD, List.getElem?_eq_getElem (show i + 1 < (cyc q).length by (first | lia | omega))]
      rw [e]
      exact IntsAre.append hPi (.cons _ _ .nil)
  · intro ci ui hi' tki hPi Fi Ni
    try k_fold
    (repeat' (first | (k_unfold; (try dsimp only)) | (k_end; wrow_close) | ((with_reducible show wpAny _ _ (execs (_ :: _) _) _ _ (Shared.mk _ _ _ (_ + 1) _)); (with_reducible refine toks_cut ?_); intro _) | ((first | ((with_reducible show wpAny _ _ (binaryOp Operator.FloorDiv (Value.int _ _) (Value.int _ _)) _ _ _); ((k_here; k_dflt (refine' PyProof.Rows.floordiv_int ?hqhb ?_ (Or.inl (PyProof.noPylong_of_log2 ?hqp)); (case hqhb | hqp => assumption)); k_whole))) | ((with_reducible show wpAny _ _ (newTuple _) _ _ _); ((k_here; k_dflt (refine' kup_newTuple ?hqF ?hqN ?_ ?hqz; (case hqF | hqN => k_asm); (case hqz => kmk_size)); intro _ _ _ _ hq_l1; (try k_lt hq_l1); (try k_sweep)))) | ((k_here; (with_reducible show wpAny _ _ (call (Value.type _) [Value.ref _]) _ _ _); k_dflt (refine' kde_tupleOf ?hqk1 ?hqk2 ?hqk3 ?hqk4 ?hqk5 ?_; (case hqk1 | hqk2 => k_asm); (case hqk3 => exact News.isList (by k_asm) (by k_mem)); (case hqk4 => (simp only [List.size_toArray]; (first | lia | omega))); (case hqk5 => exact rfl); k_whole); intro _ _ _ _ hq_l1; (try k_lt hq_l1); (try k_sweep))) | ((with_reducible show wpAny _ _ (subscriptTail _ _ (Value.ref _) _) _ _ _); (first | ((k_here; (with_reducible show wpAny _ _ (subscriptTail _ _ (Value.ref _) (Value.int _ _)) _ _ _); k_dflt (refine' item_listM ?hqk1 ?hqk2 ?hqk3 ?hqk4 ?hqk5 ?hqk6 ?_; (case hqk1 => k_asm); (case hqk2 => k_mem); (case hqk3 => assumption); (case hqk4 | hqk5 | hqk6 => (first | lia | omega))); k_whole; intro _)) | ((k_here; (with_reducible show wpAny _ _ (subscriptTail _ _ (Value.ref _) (Value.int _ _)) _ _ _); k_dflt (refine' item_tupM ?hqk1 ?hqk2 ?hqk3 ?hqk4 ?hqk5 ?hqk6 ?_; (case hqk1 => k_asm); (case hqk2 => k_mem); (case hqk3 => assumption); (case hqk4 | hqk5 | hqk6 => (first | lia | omega))); k_whole; intro _)))) | ((with_reducible show wpAny _ _ (call (Value.builtin _) _) _ _ _); (first | ((k_here; (with_reducible show wpAny _ _ (call (Value.builtin "len") [Value.ref _]) _ _ _); k_dflt (refine' len_tupM ?hqk1 ?hqk2 ?hqk3 ?hqk4 ?_; (case hqk1 => k_asm); (case hqk2 => k_mem); (case hqk3 => first | exact IntsAre.length (by assumption) | assumption); (case hqk4 => (first | lia | omega))); k_whole)) | ((k_here; (with_reducible show wpAny _ _ (call (Value.builtin "len") [Value.ref _]) _ _ _); k_dflt (refine' len_listM ?hqk1 ?hqk2 ?hqk3 ?hqk4 ?_; (case hqk1 => k_asm); (case hqk2 => k_mem); (case hqk3 => first | exact IntsAre.length (by assumption) | assumption); (case hqk4 => (first | lia | omega))); k_whole)))))) | ((fail_if_success with_reducible (first | show wpAny _ _ (exec (Stmt.For _ _ _ _ _) _) _ _ _ | show wpAny _ _ (pyIter _) _ _ _ | show wpAny _ _ (exec (Stmt.Assign _ (Expr.ListComp _ _ _ _) _) _) _ _ _ | show wpAny _ _ (eval (Expr.ListComp _ _ _ _) _) _ _ _ | show LCg.CompSrc _ _ _ _ _ _ _ _ _ _ _ _ _ _ | show LCg.CompEnd _ _ _ _ _ _ _ _ _ _ _ _ _ _ | show LCt.CompSrcT _ _ _ _ _ _ _ _ _ _ _ _ _ _ _)); first | walk1 | (dsimp only; walk1)) | (leave1; try dsimp only) | fail))
    exact hret _ [(la, listOf ci.vs.toArray ci.k)] _ _ (by k_asm) (by k_asm) (fun q hq p hp => by rw [List.mem_singleton.mp hp]; exact hne0 q hq) ⟨la, ci.vs, ci.k, rfl, .head _, hPi⟩
/-- one turn of _law_columns: what is left, and the column -/
def cTurn (f s : Int) (p : Int × Int) : Int × Int := if p.1.fmod f = 0 then (p.1.fdiv f, p.2 - s) else p
def colR (q W : Int) : Nat → Int × List Int
  | 0 => (W, [0])
  | i + 1 =>
    let p := cTurn ((cyc q).getD (i + 1) 0) (1 + (i : Int)) (cTurn ((cyc q).getD (i + 1) 0) (1 + (i : Int)) ((colR q W i).1, (1 + (i : Int)) * (3 + (6 : Int).fdiv (1 + (i : Int)))))
    (p.1, (colR q W i).2 ++ [p.2])
def cT (f s : Int) (p : Int × Int) : Nat → Int × Int
  | 0 => p
  | n + 1 => cTurn f s (cT f s p n)
structure CoSt where
  wt : Int
  tw : Tok
  vs : List Value
  k : Nat
theorem columns_ct (w : World) (mean : ExcName → Option Value) (mg mb : Str → Option Value) (q W : Int) (tW : Tok) (vf : Value) (hnz : ∀ d : Nat, d < 8 → (cyc q).getD d 0 ≠ 0) (hbd : ∀ d : Nat, d < 8 → ((cyc q).getD d 0).natAbs < 2 ^ 100) (hone : (colR q W 7).1 = 1) :
   Ct w mean mg mb 149 2 [.int W tW, vf] (fun news => ∃ fa vs k, vf = .ref fa ∧ (fa, listOf vs.toArray k) ∈ news ∧ IntsAre vs (cyc q))
    (fun news tl r => ∃ la vs k, r = .ref la ∧ (la, listOf vs.toArray k) ∈ tl ∧ IntsAre vs (colR q W 7).2) := by
  unfold Ct
  k_fill
  intro dp un gd cs' cs a ccd cl outer A₀ base h₀ L m news s Q E B F X N T hk hP hd hu hret
  obtain ⟨fa, fvs, fk, rfl, hfm, hfi⟩ := hP
  refine wpAny_call ?_
  k_dflt ktr_enter
  rename Fr _ _ _ (fun y => List.lookup y _) => lF
  with_unfolding_all replace lF := fr_of_lookup (l := [(Str.ofString "factors", .ref fa), (Str.ofString "worth", .int W tW)]) lF
  (repeat' (first | (k_unfold; (try dsimp only)) | (k_end; wrow_close) | ((with_reducible show wpAny _ _ (execs (_ :: _) _) _ _ (Shared.mk _ _ _ (_ + 1) _)); (with_reducible refine toks_cut ?_); intro _) | ((first | ((with_reducible show wpAny _ _ (binaryOp Operator.FloorDiv (Value.int _ _) (Value.int _ _)) _ _ _); ((k_here; k_dflt (refine' PyProof.Rows.floordiv_int ?hqhb ?_ (Or.inl (PyProof.noPylong_of_log2 ?hqp)); (case hqhb | hqp => assumption)); k_whole))) | ((with_reducible show wpAny _ _ (newTuple _) _ _ _); ((k_here; k_dflt (refine' kup_newTuple ?hqF ?hqN ?_ ?hqz; (case hqF | hqN => k_asm); (case hqz => kmk_size)); intro _ _ _ _ hq_l1; (try k_lt hq_l1); (try k_sweep)))) | ((k_here; (with_reducible show wpAny _ _ (call (Value.type _) [Value.ref _]) _ _ _); k_dflt (refine' kde_tupleOf ?hqk1 ?hqk2 ?hqk3 ?hqk4 ?hqk5 ?_; (case hqk1 | hqk2 => k_asm); (case hqk3 => exact News.isList (by k_asm) (by k_mem)); (case hqk4 => (simp only [List.size_toArray]; (first | lia | omega))); (case hqk5 => exact rfl); k_whole); intro _ _ _ _ hq_l1; (try k_lt hq_l1); (try k_sweep))) | ((with_reducible show wpAny _ _ (subscriptTail _ _ (Value.ref _) _) _ _ _); (first | ((k_here; (with_reducible show wpAny _ _ (subscriptTail _ _ (Value.ref _) (Value.int _ _)) _ _ _); k_dflt (refine' item_listM ?hqk1 ?hqk2 ?hqk3 ?hqk4 ?hqk5 ?hqk6 ?_; (case hqk1 => k_asm); (case hqk2 => k_mem); (case hqk3 => assumption); (case hqk4 | hqk5 | hqk6 => (first | lia | omega))); k_whole; intro _)) | ((k_here; (with_reducible show wpAny _ _ (subscriptTail _ _ (Value.ref _) (Value.int _ _)) _ _ _); k_dflt (refine' item_tupM ?hqk1 ?hqk2 ?hqk3 ?hqk4 ?hqk5 ?hqk6 ?_; (case hqk1 => k_asm); (case hqk2 => k_mem); (case hqk3 => assumption); (case hqk4 | hqk5 | hqk6 => (first | lia | omega))); k_whole; intro _)))) | ((with_reducible show wpAny _ _ (call (Value.builtin _) _) _ _ _); (first | ((k_here; (with_reducible show wpAny _ _ (call (Value.builtin "len") [Value.ref _]) _ _ _); k_dflt (refine' len_tupM ?hqk1 ?hqk2 ?hqk3 ?hqk4 ?_; (case hqk1 => k_asm); (case hqk2 => k_mem); (case hqk3 => first | exact IntsAre.length (by assumption) | assumption); (case hqk4 => (first | lia | omega))); k_whole)) | ((k_here; (with_reducible show wpAny _ _ (call (Value.builtin "len") [Value.ref _]) _ _ _); k_dflt (refine' len_listM ?hqk1 ?hqk2 ?hqk3 ?hqk4 ?_; (case hqk1 => k_asm); (case hqk2 => k_mem); (case hqk3 => first | exact IntsAre.length (by assumption) | assumption); (case hqk4 => (first | lia | omega))); k_whole)))))) | ((fail_if_success with_reducible (first | show wpAny _ _ (exec (Stmt.For _ _ _ _ _) _) _ _ _ | show wpAny _ _ (pyIter _) _ _ _ | show wpAny _ _ (exec (Stmt.Assign _ (Expr.ListComp _ _ _ _) _) _) _ _ _ | show wpAny _ _ (eval (Expr.ListComp _ _ _ _) _) _ _ _ | show LCg.CompSrc _ _ _ _ _ _ _ _ _ _ _ _ _ _ | show LCg.CompEnd _ _ _ _ _ _ _ _ _ _ _ _ _ _ | show LCt.CompSrcT _ _ _ _ _ _ _ _ _ _ _ _ _ _ _)); first | walk1 | (dsimp only; walk1)) | (leave1; try dsimp only) | fail))
  rename Fr _ _ _ _ => lF
  with_unfolding_all refine' For_invVF lF (by exact rfl) (by exact rfl) ?_
  (repeat' (first | (k_unfold; (try dsimp only)) | (k_end; wrow_close) | ((with_reducible show wpAny _ _ (execs (_ :: _) _) _ _ (Shared.mk _ _ _ (_ + 1) _)); (with_reducible refine toks_cut ?_); intro _) | ((first | ((with_reducible show wpAny _ _ (binaryOp Operator.FloorDiv (Value.int _ _) (Value.int _ _)) _ _ _); ((k_here; k_dflt (refine' PyProof.Rows.floordiv_int ?hqhb ?_ (Or.inl (PyProof.noPylong_of_log2 ?hqp)); (case hqhb | hqp => assumption)); k_whole))) | ((with_reducible show wpAny _ _ (newTuple _) _ _ _); ((k_here; k_dflt (refine' kup_newTuple ?hqF ?hqN ?_ ?hqz; (case hqF | hqN => k_asm); (case hqz => kmk_size)); intro _ _ _ _ hq_l1; (try k_lt hq_l1); (try k_sweep)))) | ((k_here; (with_reducible show wpAny _ _ (call (Value.type _) [Value.ref _]) _ _ _); k_dflt (refine' kde_tupleOf ?hqk1 ?hqk2 ?hqk3 ?hqk4 ?hqk5 ?_; (case hqk1 | hqk2 => k_asm); (case hqk3 => exact News.isList (by k_asm) (by k_mem)); (case hqk4 => (simp only [List.size_toArray]; (first | lia | omega))); (case hqk5 => exact rfl); k_whole); intro _ _ _ _ hq_l1; (try k_lt hq_l1); (try k_sweep))) | ((with_reducible show wpAny _ _ (subscriptTail _ _ (Value.ref _) _) _ _ _); (first | ((k_here; (with_reducible show wpAny _ _ (subscriptTail _ _ (Value.ref _) (Value.int _ _)) _ _ _); k_dflt (refine' item_listM ?hqk1 ?hqk2 ?hqk3 ?hqk4 ?hqk5 ?hqk6 ?_; (case hqk1 => k_asm); (case hqk2 => k_mem); (case hqk3 => assumption); (case hqk4 | hqk5 | hqk6 => (first | lia | omega))); k_whole; intro _)) | ((k_here; (with_reducible show wpAny _ _ (subscriptTail _ _ (Value.ref _) (Value.int _ _)) _ _ _); k_dflt (refine' item_tupM ?hqk1 ?hqk2 ?hqk3 ?hqk4 ?hqk5 ?hqk6 ?_; (case hqk1 => k_asm); (case hqk2 => k_mem); (case hqk3 => assumption); (case hqk4 | hqk5 | hqk6 => (first | lia | omega))); k_whole; intro _)))) | ((with_reducible show wpAny _ _ (call (Value.builtin _) _) _ _ _); (first | ((k_here; (with_reducible show wpAny _ _ (call (Value.builtin "len") [Value.ref _]) _ _ _); k_dflt (refine' len_tupM ?hqk1 ?hqk2 ?hqk3 ?hqk4 ?_; (case hqk1 => k_asm); (case hqk2 => k_mem); (case hqk3 => first | exact IntsAre.length (by assumption) | assumption); (case hqk4 => (first | lia | omega))); k_whole)) | ((k_here; (with_reducible show wpAny _ _ (call (Value.builtin "len") [Value.ref _]) _ _ _); k_dflt (refine' len_listM ?hqk1 ?hqk2 ?hqk3 ?hqk4 ?_; (case hqk1 => k_asm); (case hqk2 => k_mem); (case hqk3 => first | exact IntsAre.length (by assumption) | assumption); (case hqk4 => (first | lia | omega))); k_whole)))))) | ((fail_if_success with_reducible (first | show wpAny _ _ (exec (Stmt.For _ _ _ _ _) _) _ _ _ | show wpAny _ _ (pyIter _) _ _ _ | show wpAny _ _ (exec (Stmt.Assign _ (Expr.ListComp _ _ _ _) _) _) _ _ _ | show wpAny _ _ (eval (Expr.ListComp _ _ _ _) _) _ _ _ | show LCg.CompSrc _ _ _ _ _ _ _ _ _ _ _ _ _ _ | show LCg.CompEnd _ _ _ _ _ _ _ _ _ _ _ _ _ _ | show LCt.CompSrcT _ _ _ _ _ _ _ _ _ _ _ _ _ _ _)); first | walk1 | (dsimp only; walk1)) | (leave1; try dsimp only) | fail))
  rename Fr _ _ _ _ => lF
  rename News _ _ _ _ => lN
  rename IsRange _ _ _ _ _ _ _ _ => hR
  rename (∀ p ∈ news, p.1 < _) => hl1
  obtain ⟨la, hla⟩ := pickA hl1
  subst hla
  have hcl : (cyc q).length = 8 := rfl
  have hne0 : ∀ p ∈ news, p.1 ≠ la := fun p hp => Nat.ne_of_lt (hl1 p hp)
  with_unfolding_all refine lp_range (σ := CoSt) (n := 7) (fun c => (la, listOf c.vs.toArray c.k) :: news) (fun c => [(Str.ofString "worth", .int c.wt c.tw)]) [Str.ofString "column", Str.ofString "turn"] (fun i c => c.wt = (colR q W i).1 ∧ IntsAre c.vs (colR q W i).2 ∧ (colR q W i).2.length = i + 1) ⟨W, tW, [.int 0 _], 0⟩ (by exact rfl) hR (small_of (by (first | lia | omega)) (by (first | lia | omega)) (by (first | lia | omega)) (by (first | lia | omega))) (by rw [rangeSize_nat]; rfl) lF lN (List.forall_mem_cons.mpr ⟨by with_unfolding_all rfl, List.forall_mem_nil _⟩) ⟨rfl, .cons _ _ .nil, rfl⟩ ?_ ?_
  · intro ci i ti ui hi' tki own1 hi hoff1 hPi Fi Ni
    obtain ⟨hwi, hvi, hli⟩ := hPi
    simp only [List.cons_append] at Ni
    have hne1 : ∀ p ∈ news ++ own1, p.1 ≠ la := ne_app hne0 (fun p hp => hoff1 p hp la (by simp))
    have hsz0 : (1 + (i : Int)) ≠ 0 := by (first | lia | omega)
    have hszl : (1 + (i : Int)).natAbs.log2 < 9000 := log2_small (Nat.lt_of_le_of_lt (by (first | lia | omega) : (1 + (i : Int)).natAbs ≤ 8) (by decide))
    try k_fold
    (repeat' (first | (k_unfold; (try dsimp only)) | (k_end; wrow_close) | ((with_reducible show wpAny _ _ (execs (_ :: _) _) _ _ (Shared.mk _ _ _ (_ + 1) _)); (with_reducible refine toks_cut ?_); intro _) | ((first | ((with_reducible show wpAny _ _ (binaryOp Operator.FloorDiv (Value.int _ _) (Value.int _ _)) _ _ _); ((k_here; k_dflt (refine' PyProof.Rows.floordiv_int ?hqhb ?_ (Or.inl (PyProof.noPylong_of_log2 ?hqp)); (case hqhb | hqp => assumption)); k_whole))) | ((with_reducible show wpAny _ _ (newTuple _) _ _ _); ((k_here; k_dflt (refine' kup_newTuple ?hqF ?hqN ?_ ?hqz; (case hqF | hqN => k_asm); (case hqz => kmk_size)); intro _ _ _ _ hq_l1; (try k_lt hq_l1); (try k_sweep)))) | ((k_here; (with_reducible show wpAny _ _ (call (Value.type _) [Value.ref _]) _ _ _); k_dflt (refine' kde_tupleOf ?hqk1 ?hqk2 ?hqk3 ?hqk4 ?hqk5 ?_; (case hqk1 | hqk2 => k_asm); (case hqk3 => exact News.isList (by k_asm) (by k_mem)); (case hqk4 => (simp only [List.size_toArray]; (first | lia | omega))); (case hqk5 => exact rfl); k_whole); intro _ _ _ _ hq_l1; (try k_lt hq_l1); (try k_sweep))) | ((with_reducible show wpAny _ _ (subscriptTail _ _ (Value.ref _) _) _ _ _); (first | ((k_here; (with_reducible show wpAny _ _ (subscriptTail _ _ (Value.ref _) (Value.int _ _)) _ _ _); k_dflt (refine' item_listM ?hqk1 ?hqk2 ?hqk3 ?hqk4 ?hqk5 ?hqk6 ?_; (case hqk1 => k_asm); (case hqk2 => k_mem); (case hqk3 => assumption); (case hqk4 | hqk5 | hqk6 => (first | lia | omega))); k_whole; intro _)) | ((k_here; (with_reducible show wpAny _ _ (subscriptTail _ _ (Value.ref _) (Value.int _ _)) _ _ _); k_dflt (refine' item_tupM ?hqk1 ?hqk2 ?hqk3 ?hqk4 ?hqk5 ?hqk6 ?_; (case hqk1 => k_asm); (case hqk2 => k_mem); (case hqk3 => assumption); (case hqk4 | hqk5 | hqk6 => (first | lia | omega))); k_whole; intro _)))) | ((with_reducible show wpAny _ _ (call (Value.builtin _) _) _ _ _); (first | ((k_here; (with_reducible show wpAny _ _ (call (Value.builtin "len") [Value.ref _]) _ _ _); k_dflt (refine' len_tupM ?hqk1 ?hqk2 ?hqk3 ?hqk4 ?_; (case hqk1 => k_asm); (case hqk2 => k_mem); (case hqk3 => first | exact IntsAre.length (by assumption) | assumption); (case hqk4 => (first | lia | omega))); k_whole)) | ((k_here; (with_reducible show wpAny _ _ (call (Value.builtin "len") [Value.ref _]) _ _ _); k_dflt (refine' len_listM ?hqk1 ?hqk2 ?hqk3 ?hqk4 ?_; (case hqk1 => k_asm); (case hqk2 => k_mem); (case hqk3 => first | exact IntsAre.length (by assumption) | assumption); (case hqk4 => (first | lia | omega))); k_whole)))))) | ((fail_if_success with_reducible (first | show wpAny _ _ (exec (Stmt.For _ _ _ _ _) _) _ _ _ | show wpAny _ _ (pyIter _) _ _ _ | show wpAny _ _ (exec (Stmt.Assign _ (Expr.ListComp _ _ _ _) _) _) _ _ _ | show wpAny _ _ (eval (Expr.ListComp _ _ _ _) _) _ _ _ | show LCg.CompSrc _ _ _ _ _ _ _ _ _ _ _ _ _ _ | show LCg.CompEnd _ _ _ _ _ _ _ _ _ _ _ _ _ _ | show LCt.CompSrcT _ _ _ _ _ _ _ _ _ _ _ _ _ _ _)); first | walk1 | (dsimp only; walk1)) | (leave1; try dsimp only) | fail))
    rename Fr _ _ _ _ => lF
    with_unfolding_all refine' For_invVF lF (by exact rfl) (by exact rfl) ?_
    (repeat' (first | (k_unfold; (try dsimp only)) | (k_end; wrow_close) | ((with_reducible show wpAny _ _ (execs (_ :: _) _) _ _ (Shared.mk _ _ _ (_ + 1) _)); (with_reducible refine toks_cut ?_); intro _) | ((first | ((with_reducible show wpAny _ _ (binaryOp Operator.FloorDiv (Value.int _ _) (Value.int _ _)) _ _ _); ((k_here; k_dflt (refine' PyProof.Rows.floordiv_int ?hqhb ?_ (Or.inl (PyProof.noPylong_of_log2 ?hqp)); (case hqhb | hqp => assumption)); k_whole))) | ((with_reducible show wpAny _ _ (newTuple _) _ _ _); ((k_here; k_dflt (refine' kup_newTuple ?hqF ?hqN ?_ ?hqz; (case hqF | hqN => k_asm); (case hqz => kmk_size)); intro _ _ _ _ hq_l1; (try k_lt hq_l1); (try k_sweep)))) | ((k_here; (with_reducible show wpAny _ _ (call (Value.type _) [Value.ref _]) _ _ _); k_dflt (refine' kde_tupleOf ?hqk1 ?hqk2 ?hqk3 ?hqk4 ?hqk5 ?_; (case hqk1 | hqk2 => k_asm); (case hqk3 => exact News.isList (by k_asm) (by k_mem)); (case hqk4 => (simp only [List.size_toArray]; (first | lia | omega))); (case hqk5 => exact rfl); k_whole); intro _ _ _ _ hq_l1; (try k_lt hq_l1); (try k_sweep))) | ((with_reducible show wpAny _ _ (subscriptTail _ _ (Value.ref _) _) _ _ _); (first | ((k_here; (with_reducible show wpAny _ _ (subscriptTail _ _ (Value.ref _) (Value.int _ _)) _ _ _); k_dflt (refine' item_listM ?hqk1 ?hqk2 ?hqk3 ?hqk4 ?hqk5 ?hqk6 ?_; (case hqk1 => k_asm); (case hqk2 => k_mem); (case hqk3 => assumption); (case hqk4 | hqk5 | hqk6 => (first | lia | omega))); k_whole; intro _)) | ((k_here; (with_reducible show wpAny _ _ (subscriptTail _ _ (Value.ref _) (Value.int _ _)) _ _ _); k_dflt (refine' item_tupM ?hqk1 ?hqk2 ?hqk3 ?hqk4 ?hqk5 ?hqk6 ?_; (case hqk1 => k_asm); (case hqk2 => k_mem); (case hqk3 => assumption); (case hqk4 | hqk5 | hqk6 => (first | lia | omega))); k_whole; intro _)))) | ((with_reducible show wpAny _ _ (call (Value.builtin _) _) _ _ _); (first | ((k_here; (with_reducible show wpAny _ _ (call (Value.builtin "len") [Value.ref _]) _ _ _); k_dflt (refine' len_tupM ?hqk1 ?hqk2 ?hqk3 ?hqk4 ?_; (case hqk1 => k_asm); (case hqk2 => k_mem); (case hqk3 => first | exact IntsAre.length (by assumption) | assumption); (case hqk4 => (first | lia | omega))); k_whole)) | ((k_here; (with_reducible show wpAny _ _ (call (Value.builtin "len") [Value.ref _]) _ _ _); k_dflt (refine' len_listM ?hqk1 ?hqk2 ?hqk3 ?hqk4 ?_; (case hqk1 => k_asm); (case hqk2 => k_mem); (case hqk3 => first | exact IntsAre.length (by assumption) | assumption); (case hqk4 => (first | lia | omega))); k_whole)))))) | ((fail_if_success with_reducible (first | show wpAny _ _ (exec (Stmt.For _ _ _ _ _) _) _ _ _ | show wpAny _ _ (pyIter _) _ _ _ | show wpAny _ _ (exec (Stmt.Assign _ (Expr.ListComp _ _ _ _) _) _) _ _ _ | show wpAny _ _ (eval (Expr.ListComp _ _ _ _) _) _ _ _ | show LCg.CompSrc _ _ _ _ _ _ _ _ _ _ _ _ _ _ | show LCg.CompEnd _ _ _ _ _ _ _ _ _ _ _ _ _ _ | show LCt.CompSrcT _ _ _ _ _ _ _ _ _ _ _ _ _ _ _)); first | walk1 | (dsimp only; walk1)) | (leave1; try dsimp only) | fail))
    rename Fr _ _ _ _ => lF
    rename News _ _ _ _ => lN
    rename IsRange _ _ _ _ _ _ _ _ => hR
    with_unfolding_all refine lp_range (σ := (Int × Int) × (Tok × Tok)) (n := 2) (fun c => (la, listOf ci.vs.toArray ci.k) :: (news ++ own1)) (fun c => [(Str.ofString "worth", .int c.1.1 c.2.1), (Str.ofString "column", .int c.1.2 c.2.2)]) [] (fun d c => c.1 = cT ((cyc q).getD (i + 1) 0) (1 + (i : Int)) (ci.wt, (1 + (i : Int)) * (3 + (6 : Int).fdiv (1 + (i : Int)))) d) ((ci.wt, (1 + (i : Int)) * (3 + (6 : Int).fdiv (1 + (i : Int)))), (_, _)) (by exact rfl) hR (small_of (by (first | lia | omega)) (by (first | lia | omega)) (by (first | lia | omega)) (by (first | lia | omega))) (by rw [rangeSize_nat]; rfl) lF lN (List.forall_mem_cons.mpr ⟨by with_unfolding_all rfl, List.forall_mem_cons.mpr ⟨by with_unfolding_all rfl, List.forall_mem_nil _⟩⟩) rfl ?_ ?_
    · intro cd d td ud hd' tkd own2 hdi hoff2 hPd Fd Nd
      simp only [List.cons_append] at Nd
      have hg : (cyc q).getD (1 + (i : Int)).toNat 0 = (cyc q).getD (i + 1) 0 := by rw [show (1 + (i : Int)).toNat = i + 1 by (first | lia | omega)]
      have hz : (cyc q).getD (1 + (i : Int)).toNat 0 ≠ 0 := by rw [hg]; exact hnz _ (by (first | lia | omega))
      have hlg : ((cyc q).getD (1 + (i : Int)).toNat 0).natAbs.log2 < 9000 := by rw [hg]; exact log2_small (hbd _ (by (first | lia | omega)))
      try k_fold
      (repeat' (first | (k_unfold; (try dsimp only)) | (k_end; wrow_close) | ((with_reducible show wpAny _ _ (execs (_ :: _) _) _ _ (Shared.mk _ _ _ (_ + 1) _)); (with_reducible refine toks_cut ?_); intro _) | ((first | ((with_reducible show wpAny _ _ (binaryOp Operator.FloorDiv (Value.int _ _) (Value.int _ _)) _ _ _); ((k_here; k_dflt (refine' PyProof.Rows.floordiv_int ?hqhb ?_ (Or.inl (PyProof.noPylong_of_log2 ?hqp)); (case hqhb | hqp => assumption)); k_whole))) | ((with_reducible show wpAny _ _ (newTuple _) _ _ _); ((k_here; k_dflt (refine' kup_newTuple ?hqF ?hqN ?_ ?hqz; (case hqF | hqN => k_asm); (case hqz => kmk_size)); intro _ _ _ _ hq_l1; (try k_lt hq_l1); (try k_sweep)))) | ((k_here; (with_reducible show wpAny _ _ (call (Value.type _) [Value.ref _]) _ _ _); k_dflt (refine' kde_tupleOf ?hqk1 ?hqk2 ?hqk3 ?hqk4 ?hqk5 ?_; (case hqk1 | hqk2 => k_asm); (case hqk3 => exact News.isList (by k_asm) (by k_mem)); (case hqk4 => (simp only [List.size_toArray]; (first | lia | omega))); (case hqk5 => exact rfl); k_whole); intro _ _ _ _ hq_l1; (try k_lt hq_l1); (try k_sweep))) | ((with_reducible show wpAny _ _ (subscriptTail _ _ (Value.ref _) _) _ _ _); (first | ((k_here; (with_reducible show wpAny _ _ (subscriptTail _ _ (Value.ref _) (Value.int _ _)) _ _ _); k_dflt (refine' item_listM ?hqk1 ?hqk2 ?hqk3 ?hqk4 ?hqk5 ?hqk6 ?_; (case hqk1 => k_asm); (case hqk2 => k_mem); (case hqk3 => assumption); (case hqk4 | hqk5 | hqk6 => (first | lia | omega))); k_whole; intro _)) | ((k_here; (with_reducible show wpAny _ _ (subscriptTail _ _ (Value.ref _) (Value.int _ _)) _ _ _); k_dflt (refine' item_tupM ?hqk1 ?hqk2 ?hqk3 ?hqk4 ?hqk5 ?hqk6 ?_; (case hqk1 => k_asm); (case hqk2 => k_mem); (case hqk3 => assumption); (case hqk4 | hqk5 | hqk6 => (first | lia | omega))); k_whole; intro _)))) | ((with_reducible show wpAny _ _ (call (Value.builtin _) _) _ _ _); (first | ((k_here; (with_reducible show wpAny _ _ (call (Value.builtin "len") [Value.ref _]) _ _ _); k_dflt (refine' len_tupM ?hqk1 ?hqk2 ?hqk3 ?hqk4 ?_; (case hqk1 => k_asm); (case hqk2 => k_mem); (case hqk3 => first | exact IntsAre.length (by assumption) | assumption); (case hqk4 => (first | lia | omega))); k_whole)) | ((k_here; (with_reducible show wpAny _ _ (call (Value.builtin "len") [Value.ref _]) _ _ _); k_dflt (refine' len_listM ?hqk1 ?hqk2 ?hqk3 ?hqk4 ?_; (case hqk1 => k_asm); (case hqk2 => k_mem); (case hqk3 => first | exact IntsAre.length (by assumption) | assumption); (case hqk4 => (first | lia | omega))); k_whole)))))) | ((fail_if_success with_reducible (first | show wpAny _ _ (exec (Stmt.For _ _ _ _ _) _) _ _ _ | show wpAny _ _ (pyIter _) _ _ _ | show wpAny _ _ (exec (Stmt.Assign _ (Expr.ListComp _ _ _ _) _) _) _ _ _ | show wpAny _ _ (eval (Expr.ListComp _ _ _ _) _) _ _ _ | show LCg.CompSrc _ _ _ _ _ _ _ _ _ _ _ _ _ _ | show LCg.CompEnd _ _ _ _ _ _ _ _ _ _ _ _ _ _ | show LCt.CompSrcT _ _ _ _ _ _ _ _ _ _ _ _ _ _ _)); first | walk1 | (dsimp only; walk1)) | (leave1; try dsimp only) | fail))
      · have hmod : cd.1.1.fmod ((cyc q).getD (1 + (i : Int)).toNat 0) = 0 := by first | assumption | simp_all
        refine lp_end ((cd.1.1.fdiv ((cyc q).getD (1 + (i : Int)).toNat 0), cd.1.2 - (1 + (i : Int))), (_, _)) (by k_asm) (by k_asm) (fun p hp => fa_mem1 hp) (fun p hp => fa_mem2 hp) hoff2 (List.forall_mem_cons.mpr ⟨by with_unfolding_all rfl, List.forall_mem_cons.mpr ⟨by with_unfolding_all rfl, List.forall_mem_nil _⟩⟩) (by ((intro mq_z mq_h1 mq_h2 mq_h3; (try simp only [List.forall_mem_cons] at mq_h2); first | (simp [kstB, mq_h1, mq_h2, mq_h3]; done) | (simp [kstB, mq_h1, mq_h2]; done) | (simp [kstB, mq_h1]; done) | (simp_all [kstB]; done)))) ?_
        show _ = cTurn _ _ _
        rw [← hPd]
        unfold cTurn
        rw [← hg, if_pos hmod]
      · have hmod : ¬ cd.1.1.fmod ((cyc q).getD (1 + (i : Int)).toNat 0) = 0 := by first | assumption | simp_all
        refine lp_end ((cd.1.1, cd.1.2), (_, _)) (by k_asm) (by k_asm) (fun p hp => fa_mem1 hp) (fun p hp => fa_mem2 hp) hoff2 (List.forall_mem_cons.mpr ⟨by with_unfolding_all rfl, List.forall_mem_cons.mpr ⟨by with_unfolding_all rfl, List.forall_mem_nil _⟩⟩) (by ((intro mq_z mq_h1 mq_h2 mq_h3; (try simp only [List.forall_mem_cons] at mq_h2); first | (simp [kstB, mq_h1, mq_h2, mq_h3]; done) | (simp [kstB, mq_h1, mq_h2]; done) | (simp [kstB, mq_h1]; done) | (simp_all [kstB]; done)))) ?_
        show _ = cTurn _ _ _
        rw [← hPd]
        unfold cTurn
        rw [← hg, if_neg hmod]
    · intro cd ud hd' tkd hPd Fd Nd
      have hvl := hvi.length
      try k_fold
      (repeat' (first | (k_unfold; (try dsimp only)) | (k_end; wrow_close) | ((with_reducible show wpAny _ _ (execs (_ :: _) _) _ _ (Shared.mk _ _ _ (_ + 1) _)); (with_reducible refine toks_cut ?_); intro _) | ((first | ((with_reducible show wpAny _ _ (binaryOp Operator.FloorDiv (Value.int _ _) (Value.int _ _)) _ _ _); ((k_here; k_dflt (refine' PyProof.Rows.floordiv_int ?hqhb ?_ (Or.inl (PyProof.noPylong_of_log2 ?hqp)); (case hqhb | hqp => assumption)); k_whole))) | ((with_reducible show wpAny _ _ (newTuple _) _ _ _); ((k_here; k_dflt (refine' kup_newTuple ?hqF ?hqN ?_ ?hqz; (case hqF | hqN => k_asm); (case hqz => kmk_size)); intro _ _ _ _ hq_l1; (try k_lt hq_l1); (try k_sweep)))) | ((k_here; (with_reducible show wpAny _ _ (call (Value.type _) [Value.ref _]) _ _ _); k_dflt (refine' kde_tupleOf ?hqk1 ?hqk2 ?hqk3 ?hqk4 ?hqk5 ?_; (case hqk1 | hqk2 => k_asm); (case hqk3 => exact News.isList (by k_asm) (by k_mem)); (case hqk4 => (simp only [List.size_toArray]; (first | lia | omega))); (case hqk5 => exact rfl); k_whole); intro _ _ _ _ hq_l1; (try k_lt hq_l1); (try k_sweep))) | ((with_reducible show wpAny _ _ (subscriptTail _ _ (Value.ref _) _) _ _ _); (first | ((k_here; (with_reducible show wpAny _ _ (subscriptTail _ _ (Value.ref _) (Value.int _ _)) _ _ _); k_dflt (refine' item_listM ?hqk1 ?hqk2 ?hqk3 ?hqk4 ?hqk5 ?hqk6 ?_; (case hqk1 => k_asm); (case hqk2 => k_mem); (case hqk3 => assumption); (case hqk4 | hqk5 | hqk6 => (first | lia | omega))); k_whole; intro _)) | ((k_here; (with_reducible show wpAny _ _ (subscriptTail _ _ (Value.ref _) (Value.int _ _)) _ _ _); k_dflt (refine' item_tupM ?hqk1 ?hqk2 ?hqk3 ?hqk4 ?hqk5 ?hqk6 ?_; (case hqk1 => k_asm); (case hqk2 => k_mem); (case hqk3 => assumption); (case hqk4 | hqk5 | hqk6 => (first | lia | omega))); k_whole; intro _)))) | ((with_reducible show wpAny _ _ (call (Value.builtin _) _) _ _ _); (first | ((k_here; (with_reducible show wpAny _ _ (call (Value.builtin "len") [Value.ref _]) _ _ _); k_dflt (refine' len_tupM ?hqk1 ?hqk2 ?hqk3 ?hqk4 ?_; (case hqk1 => k_asm); (case hqk2 => k_mem); (case hqk3 => first | exact IntsAre.length (by assumption) | assumption); (case hqk4 => (first | lia | omega))); k_whole)) | ((k_here; (with_reducible show wpAny _ _ (call (Value.builtin "len") [Value.ref _]) _ _ _); k_dflt (refine' len_listM ?hqk1 ?hqk2 ?hqk3 ?hqk4 ?_; (case hqk1 => k_asm); (case hqk2 => k_mem); (case hqk3 => first | exact IntsAre.length (by assumption) | assumption); (case hqk4 => (first | lia | omega))); k_whole)))))) | ((fail_if_success with_reducible (first | show wpAny _ _ (exec (Stmt.For _ _ _ _ _) _) _ _ _ | show wpAny _ _ (pyIter _) _ _ _ | show wpAny _ _ (exec (Stmt.Assign _ (Expr.ListComp _ _ _ _) _) _) _ _ _ | show wpAny _ _ (eval (Expr.ListComp _ _ _ _) _) _ _ _ | show LCg.CompSrc _ _ _ _ _ _ _ _ _ _ _ _ _ _ | show LCg.CompEnd _ _ _ _ _ _ _ _ _ _ _ _ _ _ | show LCt.CompSrcT _ _ _ _ _ _ _ _ _ _ _ _ _ _ _)); first | walk1 | (dsimp only; walk1)) | (leave1; try dsimp only) | fail))
      rename News _ _ _ _ => lN2
      simp only [List.push_toArray] at lN2
      refine lp_end ⟨cd.1.1, _, _, _⟩ (by k_asm) lN2 (fun p hp => fa_mem1 hp) (fun p hp => fa_mem2 hp) (fa_off hoff1) (List.forall_mem_cons.mpr ⟨by with_unfolding_all rfl, List.forall_mem_nil _⟩) (by intro z h1 h2 h3; have h4 : z ≠ Str.ofString "column" ∧ z ≠ Str.ofString "turn" := (by simpa using h3); obtain ⟨h5, h6⟩ := h4; simp only [List.forall_mem_cons] at h2; simp [kstB, h1, h2, h5, h6]) ?_
      have e : colR q W (i + 1) = (cd.1.1, (colR q W i).2 ++ [cd.1.2]) := by
        rw [hPd, hwi]
        rfl
      rw [e]
      refine ⟨rfl, IntsAre.append hvi (.cons _ _ .nil), ?_⟩
      dsimp only
      rw [List.length_append, hli]
      rfl
  · intro ci ui hi' tki hPi Fi Ni
    have hw1 : ci.wt = 1 := hPi.1.trans hone
    try k_fold
    (repeat' (first | (k_unfold; (try dsimp only)) | (k_end; wrow_close) | ((with_reducible show wpAny _ _ (execs (_ :: _) _) _ _ (Shared.mk _ _ _ (_ + 1) _)); (with_reducible refine toks_cut ?_); intro _) | ((first | ((with_reducible show wpAny _ _ (binaryOp Operator.FloorDiv (Value.int _ _) (Value.int _ _)) _ _ _); ((k_here; k_dflt (refine' PyProof.Rows.floordiv_int ?hqhb ?_ (Or.inl (PyProof.noPylong_of_log2 ?hqp)); (case hqhb | hqp => assumption)); k_whole))) | ((with_reducible show wpAny _ _ (newTuple _) _ _ _); ((k_here; k_dflt (refine' kup_newTuple ?hqF ?hqN ?_ ?hqz; (case hqF | hqN => k_asm); (case hqz => kmk_size)); intro _ _ _ _ hq_l1; (try k_lt hq_l1); (try k_sweep)))) | ((k_here; (with_reducible show wpAny _ _ (call (Value.type _) [Value.ref _]) _ _ _); k_dflt (refine' kde_tupleOf ?hqk1 ?hqk2 ?hqk3 ?hqk4 ?hqk5 ?_; (case hqk1 | hqk2 => k_asm); (case hqk3 => exact News.isList (by k_asm) (by k_mem)); (case hqk4 => (simp only [List.size_toArray]; (first | lia | omega))); (case hqk5 => exact rfl); k_whole); intro _ _ _ _ hq_l1; (try k_lt hq_l1); (try k_sweep))) | ((with_reducible show wpAny _ _ (subscriptTail _ _ (Value.ref _) _) _ _ _); (first | ((k_here; (with_reducible show wpAny _ _ (subscriptTail _ _ (Value.ref _) (Value.int _ _)) _ _ _); k_dflt (refine' item_listM ?hqk1 ?hqk2 ?hqk3 ?hqk4 ?hqk5 ?hqk6 ?_; (case hqk1 => k_asm); (case hqk2 => k_mem); (case hqk3 => assumption); (case hqk4 | hqk5 | hqk6 => (first | lia | omega))); k_whole; intro _)) | ((k_here; (with_reducible show wpAny _ _ (subscriptTail _ _ (Value.ref _) (Value.int _ _)) _ _ _); k_dflt (refine' item_tupM ?hqk1 ?hqk2 ?hqk3 ?hqk4 ?hqk5 ?hqk6 ?_; (case hqk1 => k_asm); (case hqk2 => k_mem); (case hqk3 => assumption); (case hqk4 | hqk5 | hqk6 => (first | lia | omega))); k_whole; intro _)))) | ((with_reducible show wpAny _ _ (call (Value.builtin _) _) _ _ _); (first | ((k_here; (with_reducible show wpAny _ _ (call (Value.builtin "len") [Value.ref _]) _ _ _); k_dflt (refine' len_tupM ?hqk1 ?hqk2 ?hqk3 ?hqk4 ?_; (case hqk1 => k_asm); (case hqk2 => k_mem); (case hqk3 => first | exact IntsAre.length (by assumption) | assumption); (case hqk4 => (first | lia | omega))); k_whole)) | ((k_here; (with_reducible show wpAny _ _ (call (Value.builtin "len") [Value.ref _]) _ _ _); k_dflt (refine' len_listM ?hqk1 ?hqk2 ?hqk3 ?hqk4 ?_; (case hqk1 => k_asm); (case hqk2 => k_mem); (case hqk3 => first | exact IntsAre.length (by assumption) | assumption); (case hqk4 => (first | lia | omega))); k_whole)))))) | ((fail_if_success with_reducible (first | show wpAny _ _ (exec (Stmt.For _ _ _ _ _) _) _ _ _ | show wpAny _ _ (pyIter _) _ _ _ | show wpAny _ _ (exec (Stmt.Assign _ (Expr.ListComp _ _ _ _) _) _) _ _ _ | show wpAny _ _ (eval (Expr.ListComp _ _ _ _) _) _ _ _ | show LCg.CompSrc _ _ _ _ _ _ _ _ _ _ _ _ _ _ | show LCg.CompEnd _ _ _ _ _ _ _ _ _ _ _ _ _ _ | show LCt.CompSrcT _ _ _ _ _ _ _ _ _ _ _ _ _ _ _)); first | walk1 | (dsimp only; walk1)) | (leave1; try dsimp only) | fail))
    · exact hret _ [(la, listOf ci.vs.toArray ci.k)] _ _ (by k_asm) (by k_asm) (fun q hq p hp => by rw [List.mem_singleton.mp hp]; exact hne0 q hq) ⟨la, ci.vs, ci.k, rfl, .head _, hPi.2.1⟩
    · exfalso
      first | (first | lia | omega) | simp_all
theorem lw_q {o : Obj} {q : Int} {t : Tok} (h : o.data = Data.cell (some (.int q t))) : ∃ (x : Obj) (q' : Int) (t' : Tok), x = o ∧ q' = q ∧ x.data = Data.cell (some (.int q' t')) := ⟨o, q, t, rfl, rfl, h⟩
theorem lw_c {o : Obj} {c : Option Value} (h : o.data = Data.cell c) : ∃ (x : Obj), x = o ∧ x.data = Data.cell c := ⟨o, rfl, h⟩
theorem lw_list {h : Heap} {a : Addr} {vs : List Value} {ns : List Int} (hL : h.IsList a vs.toArray) (hI : IntsAre vs ns) (h6 : ¬ (63 : Int) < (ns.length : Int)) : ∃ (b : Addr) (us : List Value) (ms : List Int), b = a ∧ us = vs ∧ ms = ns ∧ h.IsList b us.toArray ∧ IntsAre us ms ∧ ms.length ≤ 63 := ⟨a, vs, ns, rfl, rfl, rfl, hL, hI, by omega⟩
/-- nothing of R lies at one of the law's seven cells -/
def Apart (R : Led) (L : Addr) : Prop := ∀ p ∈ R, p.1 ≠ L + 1 ∧ p.1 ≠ L + 1 + 1 ∧ p.1 ≠ L + 1 + 1 + 1 ∧ p.1 ≠ L + 1 + 1 + 1 + 1 ∧ p.1 ≠ L + 1 + 1 + 1 + 1 + 1 ∧ p.1 ≠ L + 1 + 1 + 1 + 1 + 1 + 1 ∧ p.1 ≠ L + 1 + 1 + 1 + 1 + 1 + 1 + 1
def cells7 (L : Addr) (o1 o2 o3 o4 o5 o6 o7 : Obj) (R : Led) : Led := (L + 1 + 1 + 1 + 1 + 1 + 1 + 1, o7) :: (L + 1 + 1 + 1 + 1 + 1 + 1, o6) :: (L + 1 + 1 + 1 + 1 + 1, o5) :: (L + 1 + 1 + 1 + 1, o4) :: (L + 1 + 1 + 1, o3) :: (L + 1 + 1, o2) :: (L + 1, o1) :: R
theorem cells7_mem {L : Addr} {o1 o2 o3 o4 o5 o6 o7 : Obj} {R : Led} {p : Addr × Obj} (h : p ∈ R) : p ∈ cells7 L o1 o2 o3 o4 o5 o6 o7 R := .tail _ (.tail _ (.tail _ (.tail _ (.tail _ (.tail _ (.tail _ h))))))
theorem apart_of {tl R : Led} {L : Addr} {o1 o2 o3 o4 o5 o6 o7 : Obj} (h : Dj tl (cells7 L o1 o2 o3 o4 o5 o6 o7 R)) : Apart tl L := fun p hp => by
  refine ⟨Ne.symm (h (L + 1, o1) ?_ p hp), Ne.symm (h (L + 1 + 1, o2) ?_ p hp), Ne.symm (h (L + 1 + 1 + 1, o3) ?_ p hp), Ne.symm (h (L + 1 + 1 + 1 + 1, o4) ?_ p hp), Ne.symm (h (L + 1 + 1 + 1 + 1 + 1, o5) ?_ p hp), Ne.symm (h (L + 1 + 1 + 1 + 1 + 1 + 1, o6) ?_ p hp), Ne.symm (h (L + 1 + 1 + 1 + 1 + 1 + 1 + 1, o7) ?_ p hp)⟩ <;> simp [cells7]
theorem apart_app {a b : Led} {L : Addr} (h : Apart a L) (k : Apart b L) : Apart (a ++ b) L := fun p hp => (List.mem_append.mp hp).elim (h p) (k p)
theorem cells7_sub {L : Addr} {o1 o2 o3 o4 o5 o6 o7 : Obj} {R tl : Led} {p : Addr × Obj} (h : p ∈ cells7 L o1 o2 o3 o4 o5 o6 o7 (tl ++ R)) : p ∈ tl ++ cells7 L o1 o2 o3 o4 o5 o6 o7 R := by
  simp only [cells7, List.mem_cons, List.mem_append] at *
  rcases h with h | h | h | h | h | h | h | h | h <;> simp [h]
/-- what a call has made goes into R -/
theorem lw_call {h₀ h : Heap} {L Lc : Addr} {o1 o2 o3 o4 o5 o6 o7 : Obj} {tl R : Led} (N : News h₀ L h (tl ++ cells7 Lc o1 o2 o3 o4 o5 o6 o7 R)) (hd : Dj tl (cells7 Lc o1 o2 o3 o4 o5 o6 o7 R)) (hA : Apart R Lc) :
    ∃ R' : Led, News h₀ L h (cells7 Lc o1 o2 o3 o4 o5 o6 o7 R') ∧ Apart R' Lc ∧ (∀ p ∈ tl, p ∈ R') ∧ (∀ p ∈ R, p ∈ R') :=
  ⟨tl ++ R, kst_newsOf N (fun _ hp => cells7_sub hp), apart_app (apart_of hd) hA, fun _ hp => List.mem_append.mpr (.inl hp), fun _ hp => List.mem_append.mpr (.inr hp)⟩
theorem dj_app {a b Z : Led} (h : Dj a Z) (k : Dj b Z) : Dj (a ++ b) Z := fun q hq p hp => (List.mem_append.mp hp).elim (h q hq p) (k q hq p)
theorem dj_off {D : Addr} {o : Obj} {tw Z : Led} (h : LCg.Off1 D (tw ++ Z)) (k : Dj tw Z) : Dj ((D, o) :: tw) Z := fun q hq p hp => by
  rcases List.mem_cons.mp hp with rfl | hp
  · exact Ne.symm (off1_mem h (List.mem_append.mpr (.inr hq)))
  · exact k q hq p hp
/-- what a comprehension's turns gather -/
def Gat (P : Nat → Value → Led → Prop) (tw : Led) (ys : List Value) (i : Nat) : Prop := ys.length = i ∧ ∀ k v, ys[k]? = some v → P k v tw
theorem Gat.nil {P : Nat → Value → Led → Prop} : Gat P [] [] 0 := ⟨rfl, fun _ _ h => by simp at h⟩
theorem Gat.snoc {P : Nat → Value → Led → Prop} (hm : ∀ k v t t', (∀ p ∈ t, p ∈ t') → P k v t → P k v t') {tw tl : Led} {ys : List Value} {i : Nat} {y : Value} (h : Gat P tw ys i) (hy : P i y tl) : Gat P (tl ++ tw) (ys ++ [y]) (i + 1) := by
  refine ⟨by rw [List.length_append, h.1]; rfl, fun k v hk => ?_⟩
  rw [List.getElem?_append] at hk
  split at hk
  · exact hm _ _ _ _ (fun p hp => List.mem_append.mpr (.inr hp)) (h.2 k v hk)
  · rename_i hlt
    have hl := h.1
    have : k = i := by
      have := (List.getElem?_eq_some_iff.mp hk).1
      simp at this
      omega
    subst this
    rw [hl, Nat.sub_self] at hk
    simp at hk
    subst hk
    exact hm _ _ _ _ (fun p hp => List.mem_append.mpr (.inl hp)) hy
theorem Gat.three {P : Nat → Value → Led → Prop} {tw : Led} {ys : List Value} (h : Gat P tw ys 3) : ∃ y0 y1 y2, ys = [y0, y1, y2] ∧ P 0 y0 tw ∧ P 1 y1 tw ∧ P 2 y2 tw := by
  obtain ⟨hl, hp⟩ := h
  match ys, hl with
  | [y0, y1, y2], _ => exact ⟨y0, y1, y2, rfl, hp 0 y0 rfl, hp 1 y1 rfl, hp 2 y2 rfl⟩
theorem lw_sub {p a b c : Addr × Obj} {tl tw Z : Led} (h : p ∈ a :: b :: c :: (tl ++ tw ++ Z)) : p ∈ tl ++ (a :: b :: c :: (tw ++ Z)) := by
  simp only [List.mem_cons, List.mem_append] at *
  rcases h with h | h | h | (h | h) | h <;> simp [h]
theorem off3_of {I C D : Addr} : ∀ {l : Led}, (∀ p ∈ l, p.1 ≠ I ∧ p.1 ≠ C ∧ p.1 ≠ D) → LCg.Off3 I C D l
  | [], _ => trivial
  | _ :: _, h => ⟨h _ (.head _), off3_of fun p hp => h p (.tail _ hp)⟩
theorem lw_off {I C D : Addr} {oI oC oD : Obj} {tl tw Z : Led} (h : ∀ q ∈ (I, oI) :: (C, oC) :: (D, oD) :: (tw ++ Z), ∀ p ∈ tl, q.1 ≠ p.1) (off : LCg.Off3 I C D (tw ++ Z)) : LCg.Off3 I C D (tl ++ tw ++ Z) := by
  refine off3_of fun p hp => ?_
  rw [List.append_assoc] at hp
  rcases List.mem_append.mp hp with hp | hp
  · exact ⟨Ne.symm (h _ (.head _) p hp), Ne.symm (h _ (.tail _ (.head _)) p hp), Ne.symm (h _ (.tail _ (.tail _ (.head _))) p hp)⟩
  · exact off.mem p hp
theorem lw_dj {a b c : Addr × Obj} {tl tw Z : Led} (h : ∀ q ∈ a :: b :: c :: (tw ++ Z), ∀ p ∈ tl, q.1 ≠ p.1) (k : Dj tw Z) : Dj (tl ++ tw) Z :=
  dj_app (fun q hq p hp => h q (.tail _ (.tail _ (.tail _ (List.mem_append.mpr (.inr hq))))) p hp) k
/-- a comprehension's list and what its turns made go into R -/
theorem lw_comp {h₀ h : Heap} {L Lc D : Addr} {o o1 o2 o3 o4 o5 o6 o7 : Obj} {tw R Z : Led} (eZ : Z = cells7 Lc o1 o2 o3 o4 o5 o6 o7 R) (N : News h₀ L h ((D, o) :: (tw ++ Z))) (off : LCg.Off1 D (tw ++ Z)) (hd : Dj tw Z) (hA : Apart R Lc) :
    ∃ R' : Led, News h₀ L h (cells7 Lc o1 o2 o3 o4 o5 o6 o7 R') ∧ Apart R' Lc ∧ ((D, o) ∈ R') ∧ (∀ p ∈ tw, p ∈ R') ∧ (∀ p ∈ R, p ∈ R') := by
  subst eZ
  obtain ⟨R', h1, h2, h3, h4⟩ := lw_call (tl := (D, o) :: tw) N (dj_off off hd) hA
  exact ⟨R', h1, h2, h3 _ (.head _), fun p hp => h3 p (.tail _ hp), h4⟩
theorem lw_Z {h₀ h : Heap} {L Lc : Addr} {R : Led} (hA : Apart R Lc) (o1 o2 o3 o4 o5 o6 o7 : Obj) (N : News h₀ L h (cells7 Lc o1 o2 o3 o4 o5 o6 o7 R)) : ∃ Z : Led, Z = cells7 Lc o1 o2 o3 o4 o5 o6 o7 R ∧ News h₀ L h Z ∧ (Lc + 1, o1) ∈ Z ∧ (Lc + 1 + 1, o2) ∈ Z ∧ (∀ p ∈ R, p ∈ Z) :=
  ⟨_, rfl, N, .tail _ (.tail _ (.tail _ (.tail _ (.tail _ (.tail _ (.head _)))))), .tail _ (.tail _ (.tail _ (.tail _ (.tail _ (.head _))))), fun _ h => cells7_mem h⟩
def rowD (r : Int × Int × Int) : Dat := .tuple [.int r.1, .int r.2.1, .int r.2.2]
theorem rows_dat {news : Led} {vs : List Value} {rs : List (Int × Int × Int)} (h : Rows3 news vs rs) : DatAll news vs (rs.map rowD) := by
  induction h with
  | nil => exact .nil
  | cons hm _ ih => exact .cons (.tuple hm (.cons (.int _ _) (.cons (.int _ _) (.cons (.int _ _) .nil)))) ih
theorem ints_dat {news : Led} {vs : List Value} {ns : List Int} (h : IntsAre vs ns) : DatAll news vs (ns.map Dat.int) := by
  induction h with
  | nil => exact .nil
  | cons i t _ ih => exact .cons (.int _ _) ih
section
variable {prog : Program} {w : World} {A : Around} {E : Value → Shared → Prop} {s : Shared} {h₀ : Heap} {L a b : Addr} {news : Led} {Q : Value → Shared → Prop}
theorem rows_ok (rs : List (Int × Int × Int)) : ∀ d ∈ rs.map rowD, kqdOk 8 d = true := by
  intro d hd
  obtain ⟨x, _, rfl⟩ := List.mem_map.mp hd
  rfl
/-- two lists of rows that are the same -/
theorem lw_ne {vs us : List Value} {rs : List (Int × Int × Int)} {ka kb : Nat} (N : News h₀ L s.heap news) (ma : (a, listOf vs.toArray ka) ∈ news) (mb : (b, listOf us.toArray kb) ∈ news) (Ra : Rows3 news vs rs) (Rb : Rows3 news us rs) (hu : A.units + 64 < cLine) (h : Q (.bool false) s) :
    wpAny (model prog w) A (compareOp .NotEq (.ref a) (.ref b)) Q E s :=
  kqd_ne N ma rfl rfl (rows_dat Ra) (fun _ h => h) mb rfl rfl (rows_dat Rb) (fun _ h => h) (rows_ok rs) (rows_ok rs) hu (by simpa using h)
/-- no list in a list of lists is empty -/
theorem lw_in {x : Addr} {a0 a1 a2 : Addr} {v0 v1 v2 : List Value} {n0 n1 n2 : List Int} {k k0 k1 k2 : Nat} (N : News h₀ L s.heap news) (hx : (x, listOf #[] k) ∈ news) (ma : (a, LCg.lst [.ref a0, .ref a1, .ref a2]) ∈ news)
    (m0 : (a0, listOf v0.toArray k0) ∈ news) (m1 : (a1, listOf v1.toArray k1) ∈ news) (m2 : (a2, listOf v2.toArray k2) ∈ news) (i0 : IntsAre v0 n0) (i1 : IntsAre v1 n1) (i2 : IntsAre v2 n2) (e0 : n0 ≠ []) (e1 : n1 ≠ []) (e2 : n2 ≠ []) (hu : A.units + 64 < cLine) (h : Q (.bool false) s) :
    wpAny (model prog w) A (compareOp .In (.ref x) (.ref a)) Q E s := by
  refine kqd_isIn (ds := [.list (n0.map .int), .list (n1.map .int), .list (n2.map .int)]) (d := .list []) N ma rfl rfl (.cons (.list m0 (ints_dat i0)) (.cons (.list m1 (ints_dat i1)) (.cons (.list m2 (ints_dat i2)) .nil))) (fun _ h => h) (.list hx .nil) (fun _ h => h) ?_ rfl hu ?_
  · intro d hd
    simp only [List.mem_cons, List.not_mem_nil, or_false] at hd
    rcases hd with rfl | rfl | rfl <;> simp [kqdOk]
  · have : ¬ (Dat.list [] ∈ [Dat.list (n0.map .int), .list (n1.map .int), .list (n2.map .int)]) := by
      simp [e0, e1, e2]
    simpa [this] using h
end
/- eliminations in one step: an obtain of n names stores the goal n times -/
theorem lw_qE {C : Prop} {o : Obj} {q : Int} {t : Tok} (h : o.data = Data.cell (some (.int q t))) (k : ∀ (x : Obj) (q' : Int) (t' : Tok), x = o → q' = q → x.data = Data.cell (some (.int q' t')) → C) : C := k o q t rfl rfl h
theorem lw_cE {C : Prop} {o : Obj} {c : Option Value} (h : o.data = Data.cell c) (k : ∀ (x : Obj), x = o → x.data = Data.cell c → C) : C := k o rfl h
theorem lw_callE {C : Prop} {h₀ h : Heap} {L Lc : Addr} {o1 o2 o3 o4 o5 o6 o7 : Obj} {tl R : Led} (N : News h₀ L h (tl ++ cells7 Lc o1 o2 o3 o4 o5 o6 o7 R)) (hd : Dj tl (cells7 Lc o1 o2 o3 o4 o5 o6 o7 R)) (hA : Apart R Lc)
    (k : ∀ R' : Led, News h₀ L h (cells7 Lc o1 o2 o3 o4 o5 o6 o7 R') → Apart R' Lc → (∀ p ∈ tl, p ∈ R') → (∀ p ∈ R, p ∈ R') → C) : C := by
  obtain ⟨R', a, b, c, d⟩ := lw_call N hd hA
  exact k R' a b c d
theorem lw_compE {C : Prop} {h₀ h : Heap} {L Lc D : Addr} {o o1 o2 o3 o4 o5 o6 o7 : Obj} {tw R Z : Led} (eZ : Z = cells7 Lc o1 o2 o3 o4 o5 o6 o7 R) (N : News h₀ L h ((D, o) :: (tw ++ Z))) (off : LCg.Off1 D (tw ++ Z)) (hd : Dj tw Z) (hA : Apart R Lc)
    (k : ∀ R' : Led, News h₀ L h (cells7 Lc o1 o2 o3 o4 o5 o6 o7 R') → Apart R' Lc → ((D, o) ∈ R') → (∀ p ∈ tw, p ∈ R') → (∀ p ∈ R, p ∈ R') → C) : C := by
  obtain ⟨R', a, b, c, d, e⟩ := lw_comp eZ N off hd hA
  exact k R' a b c d e
theorem lw_ZE {C : Prop} {h₀ h : Heap} {L Lc : Addr} {R : Led} (_ : Apart R Lc) (o1 o2 o3 o4 o5 o6 o7 : Obj) (N : News h₀ L h (cells7 Lc o1 o2 o3 o4 o5 o6 o7 R))
    (k : ∀ Z : Led, Z = cells7 Lc o1 o2 o3 o4 o5 o6 o7 R → News h₀ L h Z → (Lc + 1, o1) ∈ Z → (Lc + 1 + 1, o2) ∈ Z → (∀ p ∈ R, p ∈ Z) → C) : C := by
  obtain ⟨Z, a, b, c, d, e⟩ := lw_Z ‹Apart R Lc› o1 o2 o3 o4 o5 o6 o7 N
  exact k Z a b c d e
theorem get3E {C : Prop} {P : Nat → Value → Prop} {y0 y1 y2 : Value} {i : Nat} (hi : i < 3) (p0 : P 0 y0) (p1 : P 1 y1) (p2 : P 2 y2) (k : ∀ v, [y0, y1, y2][i]? = some v → P i v → C) : C := by
  match i, hi with
  | 0, _ => exact k _ rfl p0
  | 1, _ => exact k _ rfl p1
  | 2, _ => exact k _ rfl p2
/-- the same at a place that is written as an int -/
theorem get3N {C : Prop} {P : Nat → Value → Prop} {y0 y1 y2 : Value} {i : Nat} {z : Int} (hi : i < 3) (ez : z.toNat = i) (p0 : P 0 y0) (p1 : P 1 y1) (p2 : P 2 y2) (k : ∀ v, [y0, y1, y2][z.toNat]? = some v → P i v → C) : C := by
  rw [ez] at k
  exact get3E hi p0 p1 p2 k
theorem get3I {C : Prop} {f : Nat → Int} {x0 x1 x2 : Int} {t0 t1 t2 : Tok} {i : Nat} {z : Int} (hi : i < 3) (ez : z.toNat = i) (p0 : x0 = f 0) (p1 : x1 = f 1) (p2 : x2 = f 2) (k : ∀ t, [Value.int x0 t0, .int x1 t1, .int x2 t2][z.toNat]? = some (.int (f i) t) → C) : C := by
  subst p0 p1 p2
  rw [ez] at k
  match i, hi with
  | 0, _ => exact k _ rfl
  | 1, _ => exact k _ rfl
  | 2, _ => exact k _ rfl
/-- a column list of the three at a place -/
theorem get3T {C : Prop} {S : Led} {f : Nat → List Int} {a0 a1 a2 : Addr} {v0 v1 v2 : List Value} {n0 n1 n2 : Nat} {i : Nat} {z : Int} (hi : i < 3) (ez : z.toNat = i) (m0 : (a0, listOf v0.toArray n0) ∈ S) (m1 : (a1, listOf v1.toArray n1) ∈ S) (m2 : (a2, listOf v2.toArray n2) ∈ S) (i0 : IntsAre v0 (f 0)) (i1 : IntsAre v1 (f 1)) (i2 : IntsAre v2 (f 2))
    (k : ∀ a v n, [Value.ref a0, .ref a1, .ref a2][z.toNat]? = some (.ref a) → (a, listOf v.toArray n) ∈ S → IntsAre v (f i) → C) : C := by
  rw [ez] at k
  match i, hi with
  | 0, _ => exact k _ _ _ rfl m0 i0
  | 1, _ => exact k _ _ _ rfl m1 i1
  | 2, _ => exact k _ _ _ rfl m2 i2
theorem news_cut {C : Prop} {h₀ h : Heap} {L : Addr} {Z : Led} (N : News h₀ L h Z) (k : ∀ Z' : Led, News h₀ L h Z' → (∀ p ∈ Z, p ∈ Z') → C) : C := k Z N fun _ h => h
theorem pl_name {C : Prop} {α : Type} (x : α) (k : ∀ y : α, y = x → C) : C := k x rfl
/-- a witness call: its list goes into one ledger -/
theorem ct_useR {w : World} {mean : ExcName → Option Value} {mg mb : Str → Option Value} {f : Addr} {dep : Nat} {vs : List Value} {Pre : Led → Prop} {rs : List (Int × Int × Int)} {dp un : Nat} {gd : Option (List Code)} {cn : Str} {cs : Scope} {a : Addr} {ccd : Value} {cl : List (Str × Addr)} {outer : List Env} {A₀ : Around} {base h₀ : Heap} {L : Addr} {m : Str → Option Value} {news : Led} {s : Shared} {Q E : Value → Shared → Prop}
    (C : Ct w mean mg mb f dep vs Pre (fun _ tl r => ∃ la vs k, r = .ref la ∧ (la, listOf vs.toArray k) ∈ tl ∧ Rows3 tl vs rs)) (rs' : List (Int × Int × Int)) (e : rs = rs') (B : Below A₀ base outer h₀) (F : Fr h₀ L s.heap m) (X : (Mine.hd.heap_39 w.params).In h₀) (N : News h₀ L s.heap news) (T : Top VW LS mean mg mb h₀) (hk : cs.kind = .function) (hP : Pre news) (hd : dp + dep < 500) (hu : un + 100 * dep < 5000)
    (ret : ∀ la vs k h' tk' (Z : Led), Fr h₀ L h' m → News h₀ L h' Z → (la, listOf vs.toArray k) ∈ Z → Rows3 Z vs rs' → (∀ p ∈ news, p ∈ Z) → Q (.ref la) { s with heap := h', toks := tk' }) :
    wpAny (model PySem.Challenge.rw_pk0080_01.row.prog w) (ktrTop dp un gd cn cs L a ccd cl outer) (call (.ref f) vs) Q E s :=
  ct_use C B F X N T hk hP hd hu fun r tl h' tk' F' N' _ hp => by
    obtain ⟨la, vs, k, rfl, hm, hr⟩ := hp
    subst e
    exact ret la vs k h' tk' _ F' N' (List.mem_append.mpr (.inl hm)) (hr.mono fun p hp => List.mem_append.mpr (.inl hp)) fun p hp => List.mem_append.mpr (.inr hp)
/-- 1 + q + .. + q ^ (n - 1) -/
def qn (q : Int) : Nat → Int
  | 0 => 0
  | n + 1 => qn q n + q ^ n
def qf (q : Int) : Nat → Int
  | 0 => 1
  | n + 1 => qf q n * qn q (n + 1)
theorem qn_add (q : Int) (n : Nat) : ∀ m, qn q (m + n) = qn q n + q ^ n * qn q m
  | 0 => by simp [qn]
  | m + 1 => by
    have e : m + 1 + n = (m + n) + 1 := by (first | lia | omega)
    rw [e]
    show qn q (m + n) + q ^ (m + n) = qn q n + q ^ n * (qn q m + q ^ m)
    rw [qn_add q n m, Int.pow_add]
    grind
theorem tab_qf (q : Int) : ∀ n a b c : Nat, a + b + c = n → tab q a b c * (qf q a * qf q b * qf q c) = qf q n := by
  intro n
  induction n with
  | zero =>
    intro a b c h
    have ha : a = 0 := by (first | lia | omega)
    have hb : b = 0 := by (first | lia | omega)
    have hc : c = 0 := by (first | lia | omega)
    subst ha hb hc
    rw [tab_eq]
    simp [qf]
  | succ n ih =>
    intro a b c h
    rw [tab_eq]
    have h0 : ¬ (a = 0 ∧ b = 0 ∧ c = 0) := by (first | lia | omega)
    rw [if_neg h0]
    have e1 : (if 0 < a then q ^ (b + c) * tab q (a - 1) b c else 0) * (qf q a * qf q b * qf q c) = q ^ (b + c) * qn q a * qf q n := by
      cases a with
      | zero => simp [qn]
      | succ a =>
        rw [if_pos (by (first | lia | omega))]
        have := ih a b c (by (first | lia | omega))
        rw [← this]
        show q ^ (b + c) * tab q a b c * (qf q a * qn q (a + 1) * qf q b * qf q c) = _
        generalize qn q (a + 1) = X
        generalize q ^ (b + c) = Y
        grind
    have e2 : (if 0 < b then q ^ c * tab q a (b - 1) c else 0) * (qf q a * qf q b * qf q c) = q ^ c * qn q b * qf q n := by
      cases b with
      | zero => simp [qn]
      | succ b =>
        rw [if_pos (by (first | lia | omega))]
        have := ih a b c (by (first | lia | omega))
        rw [← this]
        show q ^ c * tab q a b c * (qf q a * (qf q b * qn q (b + 1)) * qf q c) = _
        generalize qn q (b + 1) = X
        generalize q ^ c = Y
        grind
    have e3 : (if 0 < c then tab q a b (c - 1) else 0) * (qf q a * qf q b * qf q c) = qn q c * qf q n := by
      cases c with
      | zero => simp [qn]
      | succ c =>
        rw [if_pos (by (first | lia | omega))]
        have := ih a b c (by (first | lia | omega))
        rw [← this]
        show tab q a b c * (qf q a * qf q b * (qf q c * qn q (c + 1))) = _
        generalize qn q (c + 1) = X
        grind
    have e4 : qn q (n + 1) = qn q c + q ^ c * qn q b + q ^ (b + c) * qn q a := by
      rw [← h, show a + b + c = a + (b + c) by (first | lia | omega), qn_add, qn_add]
    show _ = qf q n * qn q (n + 1)
    rw [e4]
    rw [Int.add_mul, Int.add_mul, Int.add_mul, e1, e2, e3]
    generalize q ^ (b + c) = Y
    generalize q ^ c = Z
    grind
def f2 (q : Int) : Int := q + 1
def f3 (q : Int) : Int := q * q + q + 1
def f4 (q : Int) : Int := q * q + 1
def f5 (q : Int) : Int := q * q * q * q + q * q * q + q * q + q + 1
def f6 (q : Int) : Int := q * q - q + 1
def f7 (q : Int) : Int := q * q * q * q * q * q + q * q * q * q * q + q * q * q * q + q * q * q + q * q + q + 1
def wp (q : Int) (a b c d e : Nat) : Int := f2 q ^ a * (f3 q ^ b * (f4 q ^ c * (f5 q ^ d * f6 q ^ e)))
theorem wp_mul (q : Int) (a b c d e a' b' c' d' e' : Nat) : wp q a b c d e * wp q a' b' c' d' e' = wp q (a + a') (b + b') (c + c') (d + d') (e + e') := by
  unfold wp
  simp only [Int.pow_add]
  generalize f2 q ^ a = x1
  generalize f3 q ^ b = x2
  generalize f4 q ^ c = x3
  generalize f5 q ^ d = x4
  generalize f6 q ^ e = x5
  grind
theorem qf_wp (q : Int) : ∀ k, k ≤ 6 → qf q k = wp q (k / 2) (k / 3) (k / 4) (k / 5) (k / 6)
  | 0, _ => by simp [qf, wp]
  | 1, _ => by simp [qf, qn, wp]
  | 2, _ => by simp [qf, qn, wp, f2]; grind
  | 3, _ => by simp [qf, qn, wp, f2, f3]; grind
  | 4, _ => by simp [qf, qn, wp, f2, f3, f4]; grind
  | 5, _ => by simp [qf, qn, wp, f2, f3, f4, f5]; grind
  | 6, _ => by simp [qf, qn, wp, f2, f3, f4, f5, f6]; grind
  | n + 7, h => absurd h (by (first | lia | omega))
/-- the square and the number -/
theorem sq_big {q : Int} (h1 : 1000 ≤ q.natAbs) : 1000 * q ≤ q * q ∧ -1000 * q ≤ q * q ∧ 0 ≤ q * q := by
  rcases Int.lt_or_le q 0 with h | h
  · have : (1000 : Int) * (-q) ≤ (-q) * (-q) := Int.mul_le_mul_of_nonneg_right (by (first | lia | omega)) (by (first | lia | omega))
    rw [Int.neg_mul_neg] at this
    (first | lia | omega)
  · have : (1000 : Int) * q ≤ q * q := Int.mul_le_mul_of_nonneg_right (by (first | lia | omega)) (by (first | lia | omega))
    (first | lia | omega)
theorem f2_big {q : Int} (h1 : 1000 ≤ q.natAbs) : 900 ≤ (f2 q).natAbs := by unfold f2; (first | lia | omega)
theorem f3_big {q : Int} (h1 : 1000 ≤ q.natAbs) : 900 ≤ (f3 q).natAbs := by
  obtain ⟨a, b, c⟩ := sq_big h1
  unfold f3
  generalize q * q = x at *
  (first | lia | omega)
theorem f4_big {q : Int} (h1 : 1000 ≤ q.natAbs) : 900 ≤ (f4 q).natAbs := by
  obtain ⟨a, b, c⟩ := sq_big h1
  unfold f4
  generalize q * q = x at *
  (first | lia | omega)
theorem f6_big {q : Int} (h1 : 1000 ≤ q.natAbs) : 900 ≤ (f6 q).natAbs := by
  obtain ⟨a, b, c⟩ := sq_big h1
  unfold f6
  generalize q * q = x at *
  (first | lia | omega)
theorem f5_big {q : Int} (h1 : 1000 ≤ q.natAbs) : 900 ≤ (f5 q).natAbs := by
  obtain ⟨a, b, c⟩ := sq_big h1
  have h2 : 0 ≤ (q * q) * (q * q + q) := Int.mul_nonneg c (by (first | lia | omega))
  have e : f5 q = (q * q) * (q * q + q) + (q * q + q + 1) := by unfold f5; grind
  rw [e]
  generalize (q * q) * (q * q + q) = y at *
  generalize q * q = x at *
  (first | lia | omega)
theorem f7_big {q : Int} (h1 : 1000 ≤ q.natAbs) : 900 ≤ (f7 q).natAbs := by
  obtain ⟨a, b, c⟩ := sq_big h1
  have h2 : 0 ≤ (q * q) * (q * q + q) := Int.mul_nonneg c (by (first | lia | omega))
  have h3 : 0 ≤ (q * q) * ((q * q) * (q * q + q)) := Int.mul_nonneg c h2
  have e : f7 q = (q * q) * ((q * q) * (q * q + q)) + (q * q) * (q * q + q) + (q * q + q + 1) := by unfold f7; grind
  rw [e]
  generalize (q * q) * ((q * q) * (q * q + q)) = z at *
  generalize (q * q) * (q * q + q) = y at *
  generalize q * q = x at *
  (first | lia | omega)
theorem nz_of {x : Int} (h : 900 ≤ x.natAbs) : x ≠ 0 := by (first | lia | omega)
theorem wp_nz {q : Int} (h1 : 1000 ≤ q.natAbs) (a b c d e : Nat) : wp q a b c d e ≠ 0 := by
  unfold wp
  exact Int.mul_ne_zero (Int.pow_ne_zero (nz_of (f2_big h1))) (Int.mul_ne_zero (Int.pow_ne_zero (nz_of (f3_big h1))) (Int.mul_ne_zero (Int.pow_ne_zero (nz_of (f4_big h1))) (Int.mul_ne_zero (Int.pow_ne_zero (nz_of (f5_big h1))) (Int.pow_ne_zero (nz_of (f6_big h1))))))
/-- the power of F(t) in the worth -/
def ex (t a b c : Nat) : Nat := 6 / t - (a / t + b / t + c / t)
theorem ex_add {a b c : Nat} (h : a + b + c = 6) (t : Nat) : ex t a b c + (a / t + b / t + c / t) = 6 / t := by
  unfold ex
  have : a / t + b / t + c / t ≤ 6 / t := by
    rcases Nat.eq_zero_or_pos t with rfl | ht
    · simp
    · rw [Nat.le_div_iff_mul_le ht, Nat.add_mul, Nat.add_mul]
      have := Nat.div_mul_le_self a t
      have := Nat.div_mul_le_self b t
      have := Nat.div_mul_le_self c t
      (first | lia | omega)
  (first | lia | omega)
def wx (q : Int) (a b c : Nat) : Int := wp q (ex 2 a b c) (ex 3 a b c) (ex 4 a b c) (ex 5 a b c) (ex 6 a b c)
theorem tab_wx {q : Int} (h1 : 1000 ≤ q.natAbs) {a b c : Nat} (h : a + b + c = 6) : tab q a b c = wx q a b c := by
  have e1 := tab_qf q 6 a b c h
  rw [qf_wp q a (by (first | lia | omega)), qf_wp q b (by (first | lia | omega)), qf_wp q c (by (first | lia | omega)), qf_wp q 6 (by (first | lia | omega)), wp_mul, wp_mul] at e1
  have e2 : wp q (6 / 2) (6 / 3) (6 / 4) (6 / 5) (6 / 6) = wx q a b c * wp q (a / 2 + b / 2 + c / 2) (a / 3 + b / 3 + c / 3) (a / 4 + b / 4 + c / 4) (a / 5 + b / 5 + c / 5) (a / 6 + b / 6 + c / 6) := by
    unfold wx
    rw [wp_mul, ex_add h, ex_add h, ex_add h, ex_add h, ex_add h]
  rw [e2] at e1
  exact Int.eq_of_mul_eq_mul_right (wp_nz h1 _ _ _ _ _) e1
/-- as good as free of common divisors -/
def Cop (F R r : Int) : Prop := ∃ u v, u * F + v * R = r
theorem Cop.one {F : Int} : Cop F 1 1 := ⟨0, 1, by simp⟩
theorem Cop.mul {F R S r s : Int} (h : Cop F R r) (k : Cop F S s) : Cop F (R * S) (r * s) := by
  obtain ⟨u, v, e⟩ := h
  obtain ⟨u', v', e'⟩ := k
  exact ⟨u * u' * F + u * v' * S + v * R * u', v * v', by rw [← e, ← e']; grind⟩
theorem Cop.pow {F R r : Int} (h : Cop F R r) : ∀ n, Cop F (R ^ n) (r ^ n)
  | 0 => by simpa using Cop.one
  | n + 1 => by rw [Int.pow_succ, Int.pow_succ]; exact (h.pow n).mul h
theorem Cop.symm {F R r : Int} (h : Cop F R r) : Cop R F r := by
  obtain ⟨u, v, e⟩ := h
  exact ⟨v, u, by rw [← e]; grind⟩
theorem Cop.not_dvd {F R r : Int} (h : Cop F R r) (h0 : r ≠ 0) (hl : r.natAbs < F.natAbs) : ¬ F ∣ R := fun ⟨x, hx⟩ => by
  obtain ⟨u, v, e⟩ := h
  have : F ∣ r := ⟨u + v * x, by rw [← e, hx]; grind⟩
  have := Int.natAbs_dvd_natAbs.mpr this
  have := Nat.le_of_dvd (by (first | lia | omega)) this
  (first | lia | omega)
theorem c23 (q : Int) : Cop (f2 q) (f3 q) 1 := ⟨-q, 1, by unfold f2 f3; grind⟩
theorem c24 (q : Int) : Cop (f2 q) (f4 q) 2 := ⟨1 - q, 1, by unfold f2 f4; grind⟩
theorem c25 (q : Int) : Cop (f2 q) (f5 q) 1 := ⟨-(q * q * q + q), 1, by unfold f2 f5; grind⟩
theorem c26 (q : Int) : Cop (f2 q) (f6 q) 3 := ⟨2 - q, 1, by unfold f2 f6; grind⟩
theorem c34 (q : Int) : Cop (f3 q) (f4 q) 1 := ⟨-q, 1 + q, by unfold f3 f4; grind⟩
theorem c35 (q : Int) : Cop (f3 q) (f5 q) 1 := ⟨1 + q * q * q, -q, by unfold f3 f5; grind⟩
theorem c36 (q : Int) : Cop (f3 q) (f6 q) 2 := ⟨1 - q, q + 1, by unfold f3 f6; grind⟩
theorem c45 (q : Int) : Cop (f4 q) (f5 q) 1 := ⟨-(q * q + q), 1, by unfold f4 f5; grind⟩
theorem c46 (q : Int) : Cop (f4 q) (f6 q) 1 := ⟨1 - q, q, by unfold f4 f6; grind⟩
theorem c56 (q : Int) : Cop (f5 q) (f6 q) 1 := ⟨-q, 1 + q * (q * q + 2 * q + 2), by unfold f5 f6; grind⟩
theorem sm4 {r1 r2 r3 r4 : Int} (h1 : 1 ≤ r1 ∧ r1 ≤ 3) (h2 : 1 ≤ r2 ∧ r2 ≤ 3) (h3 : 1 ≤ r3 ∧ r3 ≤ 3) (h4 : 1 ≤ r4 ∧ r4 ≤ 3) {a b c d : Nat} (ha : a ≤ 1) (hb : b ≤ 1) (hc : c ≤ 1) (hd : d ≤ 2) : r1 ^ a * (r2 ^ b * (r3 ^ c * r4 ^ d)) ≠ 0 ∧ (r1 ^ a * (r2 ^ b * (r3 ^ c * r4 ^ d))).natAbs < 900 := by
  have P : ∀ r : Int, 1 ≤ r ∧ r ≤ 3 → ∀ n : Nat, n ≤ 1 → 1 ≤ (r ^ n).natAbs ∧ (r ^ n).natAbs ≤ 3 := by
    intro r hr n hn
    have : n = 0 ∨ n = 1 := by (first | lia | omega)
    rcases this with rfl | rfl
    · simp
    · simp; (first | lia | omega)
  have P2 : ∀ r : Int, 1 ≤ r ∧ r ≤ 3 → ∀ n : Nat, n ≤ 2 → 1 ≤ (r ^ n).natAbs ∧ (r ^ n).natAbs ≤ 9 := by
    intro r hr n hn
    have h3 : r = 1 ∨ r = 2 ∨ r = 3 := by (first | lia | omega)
    have : n = 0 ∨ n = 1 ∨ n = 2 := by (first | lia | omega)
    rcases this with rfl | rfl | rfl <;> rcases h3 with rfl | rfl | rfl <;> decide
  obtain ⟨x1, y1⟩ := P _ h1 a ha
  obtain ⟨x2, y2⟩ := P _ h2 b hb
  obtain ⟨x3, y3⟩ := P _ h3 c hc
  obtain ⟨x4, y4⟩ := P2 _ h4 d hd
  have hb : (r1 ^ a * (r2 ^ b * (r3 ^ c * r4 ^ d))).natAbs ≤ 3 * (3 * (3 * 9)) := by
    rw [Int.natAbs_mul, Int.natAbs_mul, Int.natAbs_mul]
    exact Nat.mul_le_mul y1 (Nat.mul_le_mul y2 (Nat.mul_le_mul y3 y4))
  have hl : 1 * (1 * (1 * 1)) ≤ (r1 ^ a * (r2 ^ b * (r3 ^ c * r4 ^ d))).natAbs := by
    rw [Int.natAbs_mul, Int.natAbs_mul, Int.natAbs_mul]
    exact Nat.mul_le_mul x1 (Nat.mul_le_mul x2 (Nat.mul_le_mul x3 x4))
  (first | lia | omega)
theorem nd4 {F G1 G2 G3 G4 r1 r2 r3 r4 : Int} (hF : 900 ≤ F.natAbs) (g1 : Cop F G1 r1) (g2 : Cop F G2 r2) (g3 : Cop F G3 r3) (g4 : Cop F G4 r4) (h1 : 1 ≤ r1 ∧ r1 ≤ 3) (h2 : 1 ≤ r2 ∧ r2 ≤ 3) (h3 : 1 ≤ r3 ∧ r3 ≤ 3) (h4 : 1 ≤ r4 ∧ r4 ≤ 3) {a b c d : Nat} (ha : a ≤ 1) (hb : b ≤ 1) (hc : c ≤ 1) (hd : d ≤ 2) : ¬ F ∣ G1 ^ a * (G2 ^ b * (G3 ^ c * G4 ^ d)) := by
  obtain ⟨z1, z2⟩ := sm4 h1 h2 h3 h4 ha hb hc hd
  exact ((g1.pow a).mul ((g2.pow b).mul ((g3.pow c).mul (g4.pow d)))).not_dvd z1 (by (first | lia | omega))
def Wd (ls : List Int) : Prop := ls.length = 6 ∧ ∀ l ∈ ls, 0 ≤ l ∧ l < 3
/-- the worth of a word -/
noncomputable def wo (q : Int) (ls : List Int) : Int := tab q (cnt ls 0).toNat (cnt ls 1).toNat (cnt ls 2).toNat
def pre3 (c0 c1 c2 : Nat) : List Nat := List.replicate c0 32 ++ [9] ++ (List.replicate c1 32 ++ [9]) ++ (List.replicate c2 32 ++ [9])
def cnL (c0 c1 c2 : Nat) : List Int := (scan (pre3 c0 c1 c2) 0 0 0 []).2.2.2
def cnT (c0 c1 c2 : Nat) : List Int := (scan (pre3 c0 c1 c2 ++ [9]) 0 0 0 []).2.2.2
def cL (ls : List Int) : List Int := cnL (cnt ls 0).toNat (cnt ls 1).toNat (cnt ls 2).toNat
def cTt (ls : List Int) : List Int := cnT (cnt ls 0).toNat (cnt ls 1).toNat (cnt ls 2).toNat
def colsC (c0 c1 c2 : Nat) : List Int := (List.range 8).map fun t => ((t * (3 + c0 / t + c1 / t + c2 / t) : Nat) : Int)
def cols (ls : List Int) : List Int := colsC (cnt ls 0).toNat (cnt ls 1).toNat (cnt ls 2).toNat
theorem cols_len (ls : List Int) : (cols ls).length = 8 := rfl
theorem cols_ne (ls : List Int) : cols ls ≠ [] := fun h => by have := cols_len ls; rw [h] at this; cases this
theorem pl_q {S q : Int} (h : q = (1000 + (S.fdiv 2).fmod 1000) * (1 - S.fmod 2 * 2)) : 1000 ≤ q.natAbs ∧ q.natAbs ≤ 1999 := by
  have h1 := Int.fmod_nonneg_of_pos (S.fdiv 2) (show (0:Int) < 1000 by decide)
  have h2 := Int.fmod_lt_of_pos (S.fdiv 2) (show (0:Int) < 1000 by decide)
  have h3 := Int.fmod_nonneg_of_pos S (show (0:Int) < 2 by decide)
  have h4 := Int.fmod_lt_of_pos S (show (0:Int) < 2 by decide)
  have h5 : S.fmod 2 = 0 ∨ S.fmod 2 = 1 := by (first | lia | omega)
  rcases h5 with e | e <;> rw [e] at h <;> (first | lia | omega)
theorem cyc2 (q : Int) : (cyc q).getD 2 0 = f2 q := rfl
theorem cyc3 (q : Int) : (cyc q).getD 3 0 = f3 q := rfl
theorem cyc4 (q : Int) : (cyc q).getD 4 0 = f4 q := rfl
theorem cyc5 (q : Int) : (cyc q).getD 5 0 = f5 q := rfl
theorem cyc6 (q : Int) : (cyc q).getD 6 0 = f6 q := rfl
theorem cyc7 (q : Int) : (cyc q).getD 7 0 = f7 q := rfl
theorem pl_nz {q : Int} (h1 : 1000 ≤ q.natAbs) : ∀ d : Nat, d < 8 → (cyc q).getD d 0 ≠ 0
  | 0, _ => by show (1 : Int) ≠ 0; decide
  | 1, _ => by show q - 1 ≠ 0; (first | lia | omega)
  | 2, _ => nz_of (f2_big h1)
  | 3, _ => nz_of (f3_big h1)
  | 4, _ => nz_of (f4_big h1)
  | 5, _ => nz_of (f5_big h1)
  | 6, _ => nz_of (f6_big h1)
  | 7, _ => nz_of (f7_big h1)
  | n + 8, h => absurd h (by (first | lia | omega))
theorem bd_mul {a b : Int} {m n : Nat} (h : a.natAbs ≤ m) (k : b.natAbs ≤ n) : (a * b).natAbs ≤ m * n := by rw [Int.natAbs_mul]; exact Nat.mul_le_mul h k
theorem bd_add {a b : Int} {m n : Nat} (h : a.natAbs ≤ m) (k : b.natAbs ≤ n) : (a + b).natAbs ≤ m + n := Nat.le_trans (Int.natAbs_add_le a b) (Nat.add_le_add h k)
theorem bd_sub {a b : Int} {m n : Nat} (h : a.natAbs ≤ m) (k : b.natAbs ≤ n) : (a - b).natAbs ≤ m + n := by rw [Int.sub_eq_add_neg]; exact bd_add h (by rw [Int.natAbs_neg]; exact k)
theorem bd_one : (1 : Int).natAbs ≤ 1 := by decide
theorem pl_bd {q : Int} (h1 : q.natAbs ≤ 1999) : ∀ d : Nat, d < 8 → ((cyc q).getD d 0).natAbs < 2 ^ 100
  | 0, _ => by show (1 : Int).natAbs < 2 ^ 100; decide
  | 1, _ => Nat.lt_of_le_of_lt (bd_sub h1 bd_one) (by decide)
  | 2, _ => Nat.lt_of_le_of_lt (bd_add h1 bd_one) (by decide)
  | 3, _ => Nat.lt_of_le_of_lt (bd_add (bd_add (bd_mul h1 h1) h1) bd_one) (by decide)
  | 4, _ => Nat.lt_of_le_of_lt (bd_add (bd_mul h1 h1) bd_one) (by decide)
  | 5, _ => Nat.lt_of_le_of_lt (bd_add (bd_add (bd_add (bd_add (bd_mul (bd_mul (bd_mul h1 h1) h1) h1) (bd_mul (bd_mul h1 h1) h1)) (bd_mul h1 h1)) h1) bd_one) (by decide)
  | 6, _ => Nat.lt_of_le_of_lt (bd_add (bd_sub (bd_mul h1 h1) h1) bd_one) (by decide)
  | 7, _ => Nat.lt_of_le_of_lt (bd_add (bd_add (bd_add (bd_add (bd_add (bd_add (bd_mul (bd_mul (bd_mul (bd_mul (bd_mul h1 h1) h1) h1) h1) h1) (bd_mul (bd_mul (bd_mul (bd_mul h1 h1) h1) h1) h1)) (bd_mul (bd_mul (bd_mul h1 h1) h1) h1)) (bd_mul (bd_mul h1 h1) h1)) (bd_mul h1 h1)) h1) bd_one) (by decide)
  | n + 8, h => absurd h (by (first | lia | omega))
theorem inF_yes {q : Int} {s d : Nat} {x y : Int} (hx : inF q s d = (cyc q).getD (d + 1) 0 * y) (h0 : (cyc q).getD (d + 1) 0 ≠ 0) (h : (s : Int).fmod (1 + (d : Int)) = 0) (e : y = x) : inF q s (d + 1) = x := by
  show (if (s : Int).fmod (1 + (d : Int)) = 0 then (inF q s d).fdiv ((cyc q).getD (d + 1) 0) else inF q s d) = x
  rw [if_pos h, hx, Int.mul_fdiv_cancel_left _ h0, e]
theorem inF_no {q : Int} {s d : Nat} {x : Int} (hx : inF q s d = x) (h : ¬ (s : Int).fmod (1 + (d : Int)) = 0) : inF q s (d + 1) = x := by
  show (if (s : Int).fmod (1 + (d : Int)) = 0 then (inF q s d).fdiv ((cyc q).getD (d + 1) 0) else inF q s d) = x
  rw [if_neg h, hx]
theorem pl_in {q : Int} (h1 : 1000 ≤ q.natAbs) : ∀ i : Nat, i < 7 → inF q (i + 1) i = (cyc q).getD (i + 1) 0 := by
  have z := pl_nz h1
  have c1 : ∀ s, inF q s 0 = q ^ s - 1 := fun _ => rfl
  intro i hi
  match i, hi with
  | 0, _ => show q ^ 1 - 1 = q - 1; grind
  | 1, _ => exact inF_yes (y := f2 q) (by rw [c1]; show _ = (q - 1) * _; unfold f2; grind) (z 1 (by (first | lia | omega))) (by decide) rfl
  | 2, _ => exact inF_no (inF_yes (y := f3 q) (by rw [c1]; show _ = (q - 1) * _; unfold f3; grind) (z 1 (by (first | lia | omega))) (by decide) rfl) (by decide)
  | 3, _ => exact inF_no (inF_yes (y := f4 q) (inF_yes (y := f2 q * f4 q) (by rw [c1]; show _ = (q - 1) * _; unfold f2 f4; grind) (z 1 (by (first | lia | omega))) (by decide) rfl) (z 2 (by (first | lia | omega))) (by decide) rfl) (by decide)
  | 4, _ => exact inF_no (inF_no (inF_no (inF_yes (y := f5 q) (by rw [c1]; show _ = (q - 1) * _; unfold f5; grind) (z 1 (by (first | lia | omega))) (by decide) rfl) (by decide)) (by decide)) (by decide)
  | 5, _ => exact inF_no (inF_no (inF_yes (y := f6 q) (inF_yes (y := f3 q * f6 q) (inF_yes (y := f2 q * (f3 q * f6 q)) (by rw [c1]; show _ = (q - 1) * _; unfold f2 f3 f6; grind) (z 1 (by (first | lia | omega))) (by decide) rfl) (z 2 (by (first | lia | omega))) (by decide) rfl) (z 3 (by (first | lia | omega))) (by decide) rfl) (by decide)) (by decide)
  | 6, _ => exact inF_no (inF_no (inF_no (inF_no (inF_no (inF_yes (y := f7 q) (by rw [c1]; show _ = (q - 1) * _; unfold f7; grind) (z 1 (by (first | lia | omega))) (by decide) rfl) (by decide)) (by decide)) (by decide)) (by decide)) (by decide)
  | n + 7, h => exact absurd h (by (first | lia | omega))
theorem cnt_cons (l k : Int) (ls : List Int) : cnt (l :: ls) k = cnt ls k + if l = k then 1 else 0 := by
  unfold cnt
  by_cases e : l = k <;> simp [e]
theorem cnt_sum : ∀ ls : List Int, (∀ l ∈ ls, 0 ≤ l ∧ l < 3) → cnt ls 0 + cnt ls 1 + cnt ls 2 = (ls.length : Int)
  | [], _ => rfl
  | l :: ls, h => by
    have ih := cnt_sum ls fun x hx => h x (.tail _ hx)
    have hl := h l (.head _)
    rw [cnt_cons, cnt_cons, cnt_cons, List.length_cons]
    have : l = 0 ∨ l = 1 ∨ l = 2 := by (first | lia | omega)
    rcases this with rfl | rfl | rfl <;> simp <;> (first | lia | omega)
theorem cnt_nn (ls : List Int) (k : Int) : 0 ≤ cnt ls k := by unfold cnt; (first | lia | omega)
theorem pl_cnt {ls : List Int} (h : Wd ls) : cnt ls 0 = ((cnt ls 0).toNat : Int) ∧ cnt ls 1 = ((cnt ls 1).toNat : Int) ∧ cnt ls 2 = ((cnt ls 2).toNat : Int) ∧ (cnt ls 0).toNat + (cnt ls 1).toNat + (cnt ls 2).toNat = 6 := by
  have h1 := cnt_sum ls h.2
  have h2 := Int.toNat_of_nonneg (cnt_nn ls 0)
  have h3 := Int.toNat_of_nonneg (cnt_nn ls 1)
  have h4 := Int.toNat_of_nonneg (cnt_nn ls 2)
  refine ⟨h2.symm, h3.symm, h4.symm, Int.ofNat.inj ?_⟩
  show (((cnt ls 0).toNat + (cnt ls 1).toNat + (cnt ls 2).toNat : Nat) : Int) = ((6 : Nat) : Int)
  rw [Int.natCast_add, Int.natCast_add, h2, h3, h4, h1, h.1]
/-- the seven shapes of the counts -/
def rep : Nat → Nat × Nat × Nat
  | 0 => (6, 0, 0)
  | 1 => (5, 1, 0)
  | 2 => (4, 2, 0)
  | 3 => (3, 3, 0)
  | 4 => (4, 1, 1)
  | 5 => (3, 2, 1)
  | _ => (2, 2, 2)
def exL (c : Nat × Nat × Nat) : List Nat := [ex 2 c.1 c.2.1 c.2.2, ex 3 c.1 c.2.1 c.2.2, ex 4 c.1 c.2.1 c.2.2, ex 5 c.1 c.2.1 c.2.2, ex 6 c.1 c.2.1 c.2.2]
abbrev Shp (c : Nat × Nat × Nat) (p : Nat) : Prop := cnL c.1 c.2.1 c.2.2 = cnL (rep p).1 (rep p).2.1 (rep p).2.2 ∧ cnT c.1 c.2.1 c.2.2 = cnT (rep p).1 (rep p).2.1 (rep p).2.2 ∧ colsC c.1 c.2.1 c.2.2 = colsC (rep p).1 (rep p).2.1 (rep p).2.2 ∧ exL c = exL (rep p)
theorem shp_ex0 : ∀ a : Nat, a < 7 → ∀ b : Nat, b < 7 - a → ∃ p : Fin 7, Shp (a, b, 6 - a - b) p.val := by decide +kernel
theorem shp_ex {a b c : Nat} (h : a + b + c = 6) : ∃ p, p < 7 ∧ Shp (a, b, c) p := by
  obtain ⟨p, hp⟩ := shp_ex0 a (by (first | lia | omega)) b (by (first | lia | omega))
  rw [show 6 - a - b = c by (first | lia | omega)] at hp
  exact ⟨p.val, p.isLt, hp⟩
def triple (ls : List Int) : Nat × Nat × Nat := ((cnt ls 0).toNat, (cnt ls 1).toNat, (cnt ls 2).toNat)
theorem shp_of {ls : List Int} (h : Wd ls) : ∃ p, p < 7 ∧ Shp (triple ls) p := shp_ex (pl_cnt h).2.2.2
theorem scan_stop {k : Nat} (h1 : k ≠ 32) (h2 : k ≠ 9) (r : List Nat) : ∀ (xs : List Nat) (n nt b : Int) (cn : List Int), scan (xs ++ k :: r) n nt b cn = scan xs n nt b cn
  | [], n, nt, b, cn => by simp [scan, h1, h2]
  | x :: xs, n, nt, b, cn => by
    simp only [List.cons_append, scan]
    split
    · exact scan_stop h1 h2 r xs _ _ _ _
    · split
      · exact scan_stop h1 h2 r xs _ _ _ _
      · rfl
theorem let_ne (l : Int) : letC l ≠ 32 ∧ letC l ≠ 9 := by unfold letC; split <;> (try split) <;> decide
theorem scan_lead {ls : List Int} (h : Wd ls) (c0 c1 c2 : Nat) (mo : List Nat) : scan (leadC c0 c1 c2 mo (ls.map letC)) 0 0 0 [] = scan (pre3 c0 c1 c2 ++ mo) 0 0 0 [] := by
  match ls, h.1 with
  | l :: ls, _ =>
    have e : leadC c0 c1 c2 mo ((l :: ls).map letC) = (pre3 c0 c1 c2 ++ mo) ++ letC l :: (ls.map letC ++ [32, 9]) := by
      unfold leadC pre3
      simp
    rw [e]
    exact scan_stop (let_ne l).1 (let_ne l).2 _ _ _ _ _ _
theorem scan_a0 : ∀ a : Nat, a < 7 → ∀ b : Nat, b < 7 - a → scan (pre3 a b (6 - a - b) ++ []) 0 0 0 [] = (9, 3, 0, cnL a b (6 - a - b)) := by decide +kernel
theorem scan_a1 : ∀ a : Nat, a < 7 → ∀ b : Nat, b < 7 - a → scan (pre3 a b (6 - a - b) ++ [32]) 0 0 0 [] = (10, 3, 1, cnL a b (6 - a - b)) := by decide +kernel
theorem scan_a2 : ∀ a : Nat, a < 7 → ∀ b : Nat, b < 7 - a → scan (pre3 a b (6 - a - b) ++ [9]) 0 0 0 [] = (10, 4, 0, cnT a b (6 - a - b)) := by decide +kernel
theorem scan_all {a b c : Nat} (h : a + b + c = 6) : scan (pre3 a b c ++ []) 0 0 0 [] = (9, 3, 0, cnL a b c) ∧ scan (pre3 a b c ++ [32]) 0 0 0 [] = (10, 3, 1, cnL a b c) ∧ scan (pre3 a b c ++ [9]) 0 0 0 [] = (10, 4, 0, cnT a b c) := by
  have e : 6 - a - b = c := by (first | lia | omega)
  have h0 := scan_a0 a (by (first | lia | omega)) b (by (first | lia | omega))
  have h1 := scan_a1 a (by (first | lia | omega)) b (by (first | lia | omega))
  have h2 := scan_a2 a (by (first | lia | omega)) b (by (first | lia | omega))
  rw [e] at h0 h1 h2
  exact ⟨h0, h1, h2⟩
theorem pl_scan0 {ls : List Int} (h : Wd ls) : scan (leadC (cnt ls 0).toNat (cnt ls 1).toNat (cnt ls 2).toNat (Str.ofString "").cps.toList (ls.map letC)) 0 0 0 [] = (9, 3, 0, cL ls) := by
  rw [show (Str.ofString "").cps.toList = [] by decide +kernel, scan_lead h]
  exact (scan_all (pl_cnt h).2.2.2).1
theorem pl_scan1 {ls : List Int} (h : Wd ls) : scan (leadC (cnt ls 0).toNat (cnt ls 1).toNat (cnt ls 2).toNat (Str.ofString " ").cps.toList (ls.map letC)) 0 0 0 [] = (10, 3, 1, cL ls) := by
  rw [show (Str.ofString " ").cps.toList = [32] by decide +kernel, scan_lead h]
  exact (scan_all (pl_cnt h).2.2.2).2.1
theorem pl_scan2 {ls : List Int} (h : Wd ls) : scan (leadC (cnt ls 0).toNat (cnt ls 1).toNat (cnt ls 2).toNat (Str.ofString "\t").cps.toList (ls.map letC)) 0 0 0 [] = (10, 4, 0, cTt ls) := by
  rw [show (Str.ofString "\t").cps.toList = [9] by decide +kernel, scan_lead h]
  exact (scan_all (pl_cnt h).2.2.2).2.2
theorem exL_bd0 : ∀ p : Nat, p < 7 → (exL (rep p)).getD 0 0 ≤ 1 ∧ (exL (rep p)).getD 1 0 ≤ 2 ∧ (exL (rep p)).getD 2 0 ≤ 1 ∧ (exL (rep p)).getD 3 0 ≤ 1 ∧ (exL (rep p)).getD 4 0 ≤ 1 := by decide +kernel
theorem ex_bd {a b c : Nat} (h : a + b + c = 6) : ex 2 a b c ≤ 1 ∧ ex 3 a b c ≤ 2 ∧ ex 4 a b c ≤ 1 ∧ ex 5 a b c ≤ 1 ∧ ex 6 a b c ≤ 1 := by
  obtain ⟨p, hp, h1, h2, h3, h4⟩ := shp_ex h
  have := exL_bd0 p hp
  rw [← h4] at this
  exact this
theorem wp2 (q : Int) (a b c d e : Nat) : wp q a b c d e = f2 q ^ a * (f4 q ^ c * (f5 q ^ d * (f6 q ^ e * f3 q ^ b))) := by
  unfold wp
  generalize f2 q ^ a = x1
  generalize f3 q ^ b = x2
  generalize f4 q ^ c = x3
  generalize f5 q ^ d = x4
  generalize f6 q ^ e = x5
  grind
theorem wp3 (q : Int) (a b c d e : Nat) : wp q a b c d e = f3 q ^ b * (f2 q ^ a * (f4 q ^ c * (f5 q ^ d * f6 q ^ e))) := by
  unfold wp
  generalize f2 q ^ a = x1
  generalize f3 q ^ b = x2
  generalize f4 q ^ c = x3
  generalize f5 q ^ d = x4
  generalize f6 q ^ e = x5
  grind
theorem wp4 (q : Int) (a b c d e : Nat) : wp q a b c d e = f4 q ^ c * (f2 q ^ a * (f5 q ^ d * (f6 q ^ e * f3 q ^ b))) := by
  unfold wp
  generalize f2 q ^ a = x1
  generalize f3 q ^ b = x2
  generalize f4 q ^ c = x3
  generalize f5 q ^ d = x4
  generalize f6 q ^ e = x5
  grind
theorem wp5 (q : Int) (a b c d e : Nat) : wp q a b c d e = f5 q ^ d * (f2 q ^ a * (f4 q ^ c * (f6 q ^ e * f3 q ^ b))) := by
  unfold wp
  generalize f2 q ^ a = x1
  generalize f3 q ^ b = x2
  generalize f4 q ^ c = x3
  generalize f5 q ^ d = x4
  generalize f6 q ^ e = x5
  grind
theorem wp6 (q : Int) (a b c d e : Nat) : wp q a b c d e = f6 q ^ e * (f2 q ^ a * (f4 q ^ c * (f5 q ^ d * f3 q ^ b))) := by
  unfold wp
  generalize f2 q ^ a = x1
  generalize f3 q ^ b = x2
  generalize f4 q ^ c = x3
  generalize f5 q ^ d = x4
  generalize f6 q ^ e = x5
  grind
section
variable {q : Int} (h1 : 1000 ≤ q.natAbs) {a b c d e : Nat}
theorem nd2 (hb : b ≤ 2) (hc : c ≤ 1) (hd : d ≤ 1) (he : e ≤ 1) (h1 : 1000 ≤ q.natAbs) : ¬ f2 q ∣ f4 q ^ c * (f5 q ^ d * (f6 q ^ e * f3 q ^ b)) :=
  nd4 (f2_big h1) (c24 q) (c25 q) (c26 q) (c23 q) (by decide) (by decide) (by decide) (by decide) hc hd he hb
theorem nd3 (ha : a ≤ 1) (hc : c ≤ 1) (hd : d ≤ 1) (he : e ≤ 1) (h1 : 1000 ≤ q.natAbs) : ¬ f3 q ∣ f2 q ^ a * (f4 q ^ c * (f5 q ^ d * f6 q ^ e)) :=
  nd4 (f3_big h1) (c23 q).symm (c34 q) (c35 q) (c36 q) (by decide) (by decide) (by decide) (by decide) ha hc hd (by (first | lia | omega))
theorem nd4' (ha : a ≤ 1) (hb : b ≤ 2) (hd : d ≤ 1) (he : e ≤ 1) (h1 : 1000 ≤ q.natAbs) : ¬ f4 q ∣ f2 q ^ a * (f5 q ^ d * (f6 q ^ e * f3 q ^ b)) :=
  nd4 (f4_big h1) (c24 q).symm (c45 q) (c46 q) (c34 q).symm (by decide) (by decide) (by decide) (by decide) ha hd he hb
theorem nd5 (ha : a ≤ 1) (hb : b ≤ 2) (hc : c ≤ 1) (he : e ≤ 1) (h1 : 1000 ≤ q.natAbs) : ¬ f5 q ∣ f2 q ^ a * (f4 q ^ c * (f6 q ^ e * f3 q ^ b)) :=
  nd4 (f5_big h1) (c25 q).symm (c45 q).symm (c56 q) (c35 q).symm (by decide) (by decide) (by decide) (by decide) ha hc he hb
theorem nd6 (ha : a ≤ 1) (hb : b ≤ 2) (hc : c ≤ 1) (hd : d ≤ 1) (h1 : 1000 ≤ q.natAbs) : ¬ f6 q ∣ f2 q ^ a * (f4 q ^ c * (f5 q ^ d * f3 q ^ b)) :=
  nd4 (f6_big h1) (c26 q).symm (c46 q).symm (c56 q).symm (c36 q).symm (by decide) (by decide) (by decide) (by decide) ha hc hd hb
end
theorem pw_le {F R X : Int} {m n : Nat} (hF : F ≠ 0) (hn : ¬ F ∣ R) (h : F ^ n * X ∣ F ^ m * R) : n ≤ m := by
  refine Nat.le_of_not_lt fun hlt => hn ?_
  obtain ⟨z, hz⟩ := h
  have e : F ^ n = F ^ m * (F ^ (n - m - 1) * F) := by
    rw [← Int.pow_succ, ← Int.pow_add]
    congr 1
    (first | lia | omega)
  rw [e, Int.mul_assoc, Int.mul_assoc] at hz
  have := Int.eq_of_mul_eq_mul_left (Int.pow_ne_zero hF) hz
  exact ⟨F ^ (n - m - 1) * X * z, by rw [this]; grind⟩
/-- one worth divides another just if no power is larger -/
theorem wx_dvd {q : Int} (h1 : 1000 ≤ q.natAbs) {a b c a' b' c' : Nat} (h : a + b + c = 6) (h' : a' + b' + c' = 6) : wx q a' b' c' ∣ wx q a b c ↔ (ex 2 a' b' c' ≤ ex 2 a b c ∧ ex 3 a' b' c' ≤ ex 3 a b c ∧ ex 4 a' b' c' ≤ ex 4 a b c ∧ ex 5 a' b' c' ≤ ex 5 a b c ∧ ex 6 a' b' c' ≤ ex 6 a b c) := by
  obtain ⟨x2, x3, x4, x5, x6⟩ := ex_bd h
  unfold wx
  generalize ex 2 a b c = e2 at *
  generalize ex 3 a b c = e3 at *
  generalize ex 4 a b c = e4 at *
  generalize ex 5 a b c = e5 at *
  generalize ex 6 a b c = e6 at *
  generalize ex 2 a' b' c' = d2 at *
  generalize ex 3 a' b' c' = d3 at *
  generalize ex 4 a' b' c' = d4 at *
  generalize ex 5 a' b' c' = d5 at *
  generalize ex 6 a' b' c' = d6 at *
  constructor
  · intro hd
    refine ⟨?_, ?_, ?_, ?_, ?_⟩
    · rw [wp2, wp2] at hd
      exact pw_le (nz_of (f2_big h1)) (nd2 x3 x4 x5 x6 h1) hd
    · rw [wp3, wp3] at hd
      exact pw_le (nz_of (f3_big h1)) (nd3 x2 x4 x5 x6 h1) hd
    · rw [wp4, wp4] at hd
      exact pw_le (nz_of (f4_big h1)) (nd4' x2 x3 x5 x6 h1) hd
    · rw [wp5, wp5] at hd
      exact pw_le (nz_of (f5_big h1)) (nd5 x2 x3 x4 x6 h1) hd
    · rw [wp6, wp6] at hd
      exact pw_le (nz_of (f6_big h1)) (nd6 x2 x3 x4 x5 h1) hd
  · rintro ⟨y2, y3, y4, y5, y6⟩
    refine ⟨wp q (e2 - d2) (e3 - d3) (e4 - d4) (e5 - d5) (e6 - d6), ?_⟩
    rw [wp_mul]
    congr 1 <;> (first | lia | omega)
theorem pl_wnz {q : Int} {ls : List Int} (h1 : 1000 ≤ q.natAbs) (h2 : q.natAbs ≤ 1999) (h : Wd ls) : wo q ls ≠ 0 := by
  unfold wo
  rw [tab_wx h1 (pl_cnt h).2.2.2]
  exact wp_nz h1 _ _ _ _ _
/-- no power of the second is larger than that of the first -/
def leE (c c' : Nat × Nat × Nat) : Bool := (exL c').getD 0 0 ≤ (exL c).getD 0 0 && (exL c').getD 1 0 ≤ (exL c).getD 1 0 && (exL c').getD 2 0 ≤ (exL c).getD 2 0 && (exL c').getD 3 0 ≤ (exL c).getD 3 0 && (exL c').getD 4 0 ≤ (exL c).getD 4 0
theorem wo_dvd {q : Int} {ls ls' : List Int} (h1 : 1000 ≤ q.natAbs) (h : Wd ls) (h' : Wd ls') : decide ((wo q ls).fmod (wo q ls') = 0) = leE (triple ls) (triple ls') := by
  have k := (pl_cnt h).2.2.2
  have k' := (pl_cnt h').2.2.2
  have e := wx_dvd h1 k k'
  unfold wo
  rw [tab_wx h1 k, tab_wx h1 k']
  have e2 : (wx q (cnt ls 0).toNat (cnt ls 1).toNat (cnt ls 2).toNat).fmod (wx q (cnt ls' 0).toNat (cnt ls' 1).toNat (cnt ls' 2).toNat) = 0 ↔ leE (triple ls) (triple ls') = true := by
    refine (Int.dvd_iff_fmod_eq_zero).symm.trans (e.trans ?_)
    unfold leE triple exL
    simp only [List.getD_eq_getElem?_getD, Bool.and_eq_true, decide_eq_true_eq]
    simp
    (first | lia | omega)
  generalize leE (triple ls) (triple ls') = B at *
  cases B <;> simp [e2]
theorem wo_eq {q : Int} {ls ls' : List Int} (h1 : 1000 ≤ q.natAbs) (h : Wd ls) (h' : Wd ls') : decide (wo q ls = wo q ls') = (leE (triple ls) (triple ls') && leE (triple ls') (triple ls)) := by
  rw [← wo_dvd h1 h h', ← wo_dvd h1 h' h]
  have k := (pl_cnt h).2.2.2
  have k' := (pl_cnt h').2.2.2
  have e1 := wx_dvd h1 k k'
  have e2 := wx_dvd h1 k' k
  by_cases he : wo q ls = wo q ls'
  · rw [he]; simp
  · rw [decide_eq_false he]
    symm
    rw [Bool.and_eq_false_iff]
    refine Classical.byContradiction fun hc => he ?_
    have g1 : (wo q ls).fmod (wo q ls') = 0 := Classical.byContradiction fun g => hc (.inl (decide_eq_false g))
    have g2 : (wo q ls').fmod (wo q ls) = 0 := Classical.byContradiction fun g => hc (.inr (decide_eq_false g))
    unfold wo at *
    rw [tab_wx h1 k, tab_wx h1 k'] at *
    have i1 := e1.mp (Int.dvd_iff_fmod_eq_zero.mpr g1)
    have i2 := e2.mp (Int.dvd_iff_fmod_eq_zero.mpr g2)
    unfold wx
    congr 1 <;> (first | lia | omega)
/-- a turn of _law_columns, both its divisions -/
theorem cT2 {f s R c : Int} (hf : f ≠ 0) (hn : ¬ f ∣ R) {e : Nat} (he : e ≤ 2) : cTurn f s (cTurn f s (f ^ e * R, c)) = (R, c - (e : Int) * s) := by
  have n0 : ¬ R.fmod f = 0 := fun h => hn (Int.dvd_iff_fmod_eq_zero.mpr h)
  have no : ∀ c, cTurn f s (R, c) = (R, c) := fun c => by unfold cTurn; rw [if_neg n0]
  have yes : ∀ x c, cTurn f s (f * x, c) = (x, c - s) := fun x c => by unfold cTurn; rw [if_pos (Int.mul_fmod_right _ _), Int.mul_fdiv_cancel_left _ hf]
  have : e = 0 ∨ e = 1 ∨ e = 2 := by (first | lia | omega)
  rcases this with rfl | rfl | rfl
  · rw [Int.pow_zero, Int.one_mul, no, no]; simp
  · rw [Int.pow_one, yes, no]; simp
  · rw [Int.pow_succ, Int.pow_one, Int.mul_assoc, yes, yes]; congr 1; (first | lia | omega)
theorem col_step {q W R : Int} {i e : Nat} {l : List Int} (f : Int) (h : colR q W i = (f ^ e * R, l)) (hc : (cyc q).getD (i + 1) 0 = f) (hf : f ≠ 0) (hn : ¬ f ∣ R) (he : e ≤ 2) : colR q W (i + 1) = (R, l ++ [(1 + (i : Int)) * (3 + (6 : Int).fdiv (1 + (i : Int))) - (e : Int) * (1 + (i : Int))]) := by
  show ((cTurn ((cyc q).getD (i + 1) 0) (1 + (i : Int)) (cTurn ((cyc q).getD (i + 1) 0) (1 + (i : Int)) ((colR q W i).1, (1 + (i : Int)) * (3 + (6 : Int).fdiv (1 + (i : Int)))))).1, (colR q W i).2 ++ [(cTurn ((cyc q).getD (i + 1) 0) (1 + (i : Int)) (cTurn ((cyc q).getD (i + 1) 0) (1 + (i : Int)) ((colR q W i).1, (1 + (i : Int)) * (3 + (6 : Int).fdiv (1 + (i : Int)))))).2]) = _
  rw [h, hc, cT2 hf hn he]
theorem rest3 (q : Int) (b c d e : Nat) : f3 q ^ b * (f4 q ^ c * (f5 q ^ d * f6 q ^ e)) = f4 q ^ c * (f5 q ^ d * (f6 q ^ e * f3 q ^ b)) := by
  generalize f3 q ^ b = x2
  generalize f4 q ^ c = x3
  generalize f5 q ^ d = x4
  generalize f6 q ^ e = x5
  grind
theorem col_all {q : Int} (h1 : 1000 ≤ q.natAbs) {a b c d e : Nat} (ha : a ≤ 1) (hb : b ≤ 2) (hc : c ≤ 1) (hd : d ≤ 1) (he : e ≤ 1) (h0 : ¬ (q - 1) ∣ wp q a b c d e) :
    colR q (wp q a b c d e) 7 = (1, [0, 9, 12 - (a : Int) * 2, 15 - (b : Int) * 3, 16 - (c : Int) * 4, 20 - (d : Int) * 5, 24 - (e : Int) * 6, 21]) := by
  have s0 : colR q (wp q a b c d e) 0 = ((q - 1) ^ 0 * wp q a b c d e, [0]) := by rw [Int.pow_zero, Int.one_mul]; rfl
  have s1 := col_step (q - 1) s0 rfl (pl_nz h1 1 (by (first | lia | omega))) h0 (by (first | lia | omega))
  have s2 := col_step (f2 q) (R := f3 q ^ b * (f4 q ^ c * (f5 q ^ d * f6 q ^ e))) s1 (cyc2 q) (nz_of (f2_big h1)) (by rw [rest3]; exact nd2 hb hc hd he h1) (by (first | lia | omega))
  have s3 := col_step (f3 q) (R := f4 q ^ c * (f5 q ^ d * f6 q ^ e)) s2 (cyc3 q) (nz_of (f3_big h1)) (by have := nd3 (a := 0) (by (first | lia | omega)) hc hd he h1; rwa [Int.pow_zero, Int.one_mul] at this) (by (first | lia | omega))
  have s4 := col_step (f4 q) (R := f5 q ^ d * f6 q ^ e) s3 (cyc4 q) (nz_of (f4_big h1)) (by have := nd4' (a := 0) (b := 0) (by (first | lia | omega)) (by (first | lia | omega)) hd he h1; rwa [Int.pow_zero, Int.one_mul, Int.pow_zero, Int.mul_one] at this) (by (first | lia | omega))
  have s5 := col_step (f5 q) (R := f6 q ^ e) s4 (cyc5 q) (nz_of (f5_big h1)) (by have := nd5 (a := 0) (b := 0) (c := 0) (by (first | lia | omega)) (by (first | lia | omega)) (by (first | lia | omega)) he h1; rwa [Int.pow_zero, Int.one_mul, Int.pow_zero, Int.one_mul, Int.pow_zero, Int.mul_one] at this) (by (first | lia | omega))
  have s6 := col_step (f6 q) (R := 1) (e := e) (by rw [s5, Int.mul_one]) (cyc6 q) (nz_of (f6_big h1)) (fun h => by have := Int.natAbs_dvd_natAbs.mpr h; have := Nat.le_of_dvd (by decide) this; have := f6_big h1; simp at *; (first | lia | omega)) (by (first | lia | omega))
  have s7 := col_step (f7 q) (R := 1) (e := 0) (by rw [s6, Int.mul_one, Int.pow_zero]) (cyc7 q) (nz_of (f7_big h1)) (fun h => by have := Int.natAbs_dvd_natAbs.mpr h; have := Nat.le_of_dvd (by decide) this; have := f7_big h1; simp at *; (first | lia | omega)) (by (first | lia | omega))
  rw [s7]
  simp
theorem pow_one_mod (q : Int) : ∀ k : Nat, ∃ y, q ^ k = 1 + (q - 1) * y
  | 0 => ⟨0, by simp⟩
  | k + 1 => by
    obtain ⟨y, e⟩ := pow_one_mod q k
    exact ⟨1 + q * y, by rw [Int.pow_succ, e]; grind⟩
theorem one_pow' (k : Nat) : (1 : Int) ^ k = 1 := Int.one_pow
theorem tab_one (q : Int) : ∀ n a b c : Nat, a + b + c = n → ∃ z, tab q a b c = tab 1 a b c + (q - 1) * z := by
  intro n
  induction n with
  | zero =>
    intro a b c h
    refine ⟨0, ?_⟩
    have ha : a = 0 := by (first | lia | omega)
    have hb : b = 0 := by (first | lia | omega)
    have hc : c = 0 := by (first | lia | omega)
    subst ha hb hc
    rw [tab_eq, tab_eq 1]
    simp
  | succ n ih =>
    intro a b c h
    rw [tab_eq, tab_eq 1]
    have e1 : ∃ z, (if 0 < a then q ^ (b + c) * tab q (a - 1) b c else 0) = (if 0 < a then 1 ^ (b + c) * tab 1 (a - 1) b c else 0) + (q - 1) * z := by
      split
      · obtain ⟨z, hz⟩ := ih (a - 1) b c (by (first | lia | omega))
        obtain ⟨y, hy⟩ := pow_one_mod q (b + c)
        rw [hz, hy, one_pow']
        exact ⟨z + y * (tab 1 (a - 1) b c + (q - 1) * z), by generalize tab 1 (a - 1) b c = T; grind⟩
      · exact ⟨0, by simp⟩
    have e2 : ∃ z, (if 0 < b then q ^ c * tab q a (b - 1) c else 0) = (if 0 < b then 1 ^ c * tab 1 a (b - 1) c else 0) + (q - 1) * z := by
      split
      · obtain ⟨z, hz⟩ := ih a (b - 1) c (by (first | lia | omega))
        obtain ⟨y, hy⟩ := pow_one_mod q c
        rw [hz, hy, one_pow']
        exact ⟨z + y * (tab 1 a (b - 1) c + (q - 1) * z), by generalize tab 1 a (b - 1) c = T; grind⟩
      · exact ⟨0, by simp⟩
    have e3 : ∃ z, (if 0 < c then tab q a b (c - 1) else 0) = (if 0 < c then tab 1 a b (c - 1) else 0) + (q - 1) * z := by
      split
      · exact ih a b (c - 1) (by (first | lia | omega))
      · exact ⟨0, by simp⟩
    obtain ⟨z1, h1⟩ := e1
    obtain ⟨z2, h2⟩ := e2
    obtain ⟨z3, h3⟩ := e3
    rw [h1, h2, h3]
    refine ⟨z1 + z2 + z3, ?_⟩
    rw [Int.mul_add, Int.mul_add]
    (first | lia | omega)
theorem qn_one : ∀ n : Nat, qn 1 n = (n : Int)
  | 0 => rfl
  | n + 1 => by
    show qn 1 n + 1 ^ n = _
    rw [qn_one n, one_pow']
    (first | lia | omega)
theorem qf_pos : ∀ n : Nat, 0 < qf 1 n
  | 0 => by decide
  | n + 1 => by
    show 0 < qf 1 n * qn 1 (n + 1)
    rw [qn_one]
    exact Int.mul_pos (qf_pos n) (by (first | lia | omega))
theorem tab1_bd {a b c : Nat} (h : a + b + c = 6) : 1 ≤ tab 1 a b c ∧ tab 1 a b c ≤ 720 := by
  have e := tab_qf 1 6 a b c h
  have e6 : qf 1 6 = 720 := by decide
  rw [e6] at e
  have hp : 0 < qf 1 a * qf 1 b * qf 1 c := Int.mul_pos (Int.mul_pos (qf_pos a) (qf_pos b)) (qf_pos c)
  generalize qf 1 a * qf 1 b * qf 1 c = D at *
  generalize tab 1 a b c = T at *
  have h1 : 0 < T := by
    refine Classical.byContradiction fun hn => ?_
    have : T * D ≤ 0 := Int.mul_nonpos_of_nonpos_of_nonneg (by (first | lia | omega)) (by (first | lia | omega))
    (first | lia | omega)
  have h2 : T * 1 ≤ T * D := Int.mul_le_mul_of_nonneg_left (by (first | lia | omega)) (by (first | lia | omega))
  (first | lia | omega)
theorem not_f1 {q : Int} (h1 : 1000 ≤ q.natAbs) {a b c : Nat} (h : a + b + c = 6) : ¬ (q - 1) ∣ tab q a b c := fun ⟨y, hy⟩ => by
  obtain ⟨z, hz⟩ := tab_one q 6 a b c h
  obtain ⟨l, u⟩ := tab1_bd h
  have : (q - 1) ∣ tab 1 a b c := ⟨y - z, by rw [Int.mul_sub]; (first | lia | omega)⟩
  have := Int.natAbs_dvd_natAbs.mpr this
  have := Nat.le_of_dvd (by (first | lia | omega)) this
  (first | lia | omega)
theorem tab_fmod {q : Int} (h1 : 1000 ≤ q.natAbs) {a b c : Nat} (h : a + b + c = 6) : (tab q a b c).fmod (q - 1) = tab 1 a b c + (if q < 0 then q - 1 else 0) := by
  obtain ⟨z, hz⟩ := tab_one q 6 a b c h
  obtain ⟨l, u⟩ := tab1_bd h
  rw [hz, Int.add_mul_fmod_self_left]
  split
  · rename_i hq
    have e : (tab 1 a b c).fmod (q - 1) = (tab 1 a b c + (q - 1)).fmod (q - 1) := by
      have := Int.add_mul_fmod_self_left (tab 1 a b c) (q - 1) 1
      rw [Int.mul_one] at this
      exact this.symm
    rw [e]
    have e2 := Int.neg_fmod_neg (tab 1 a b c + (q - 1)) (q - 1)
    have e3 : (-(tab 1 a b c + (q - 1))).fmod (-(q - 1)) = -(tab 1 a b c + (q - 1)) := Int.fmod_eq_of_lt (by (first | lia | omega)) (by (first | lia | omega))
    (first | lia | omega)
  · rw [Int.fmod_eq_of_lt (by (first | lia | omega)) (by (first | lia | omega))]
    (first | lia | omega)
theorem cnt_bd (ls : List Int) (k : Int) : cnt ls k = ((cnt ls k).toNat : Int) := by have := cnt_nn ls k; (first | lia | omega)
theorem ordW_tab {ls : List Int} (h : Wd ls) : ∀ i : Nat, i ≤ 6 → ordW ls i = tab 1 (cnt (ls.take i) 0).toNat (cnt (ls.take i) 1).toNat (cnt (ls.take i) 2).toNat ∧ (cnt (ls.take i) 0).toNat + (cnt (ls.take i) 1).toNat + (cnt (ls.take i) 2).toNat = i
  | 0, _ => by
    refine ⟨?_, rfl⟩
    show (1 : Int) = tab 1 0 0 0
    rw [tab_eq]
    simp
  | i + 1, hi => by
    obtain ⟨e, es⟩ := ordW_tab h i (by (first | lia | omega))
    have hl : i < ls.length := by rw [h.1]; (first | lia | omega)
    have hg : ls[i]? = some ls[i] := List.getElem?_eq_getElem hl
    have hr := h.2 ls[i] (List.getElem_mem hl)
    have hd : ls.getD i 0 = ls[i] := by simp [List.getD_eq_getElem?_getD, hg]
    have t0 := cnt_take (k := 0) hg
    have t1 := cnt_take (k := 1) hg
    have t2 := cnt_take (k := 2) hg
    have p0 := cnt_nn (ls.take i) 0
    have p1 := cnt_nn (ls.take i) 1
    have p2 := cnt_nn (ls.take i) 2
    show (ordW ls i * (0 + (i : Int) + 1)).fdiv (cnt (ls.take (i + 1)) (ls.getD i 0)) = _ ∧ _
    rw [hd, e]
    generalize ls[i] = l at *
    have fin : ∀ (x y D d m : Int), 0 < D → 0 < d → x * (D * d) = m * (0 + (i : Int) + 1) → y * D = m → (y * (0 + (i : Int) + 1)).fdiv d = x := by
      intro x y D d m hD hdp e1 e2
      have e3 : y * (0 + (i : Int) + 1) = x * d := by
        refine Int.eq_of_mul_eq_mul_right (a := D) (by (first | lia | omega)) ?_
        rw [← e2] at e1
        grind
      rw [e3, Int.mul_fdiv_cancel _ (by (first | lia | omega))]
    have q1 := tab_qf 1 i _ _ _ es
    have qi : qf 1 (i + 1) = qf 1 i * (0 + (i : Int) + 1) := by show qf 1 i * qn 1 (i + 1) = _; rw [qn_one]; congr 1; (first | lia | omega)
    have hD := Int.mul_pos (Int.mul_pos (qf_pos (cnt (ls.take i) 0).toNat) (qf_pos (cnt (ls.take i) 1).toNat)) (qf_pos (cnt (ls.take i) 2).toNat)
    have qs : ∀ n : Nat, qf 1 (n + 1) = qf 1 n * ((n : Int) + 1) := fun n => by show qf 1 n * qn 1 (n + 1) = _; rw [qn_one]; congr 1
    have : l = 0 ∨ l = 1 ∨ l = 2 := by (first | lia | omega)
    rcases this with rfl | rfl | rfl
    · simp at t0 t1 t2
      have n0 : (cnt (ls.take (i + 1)) 0).toNat = (cnt (ls.take i) 0).toNat + 1 := by (first | lia | omega)
      have n1 : (cnt (ls.take (i + 1)) 1).toNat = (cnt (ls.take i) 1).toNat := by (first | lia | omega)
      have n2 : (cnt (ls.take (i + 1)) 2).toNat = (cnt (ls.take i) 2).toNat := by (first | lia | omega)
      rw [n0, n1, n2]
      refine ⟨fin _ _ _ _ _ hD (by (first | lia | omega)) ?_ q1, by (first | lia | omega)⟩
      rw [← qi, ← tab_qf 1 (i + 1) _ _ _ (show (cnt (ls.take i) 0).toNat + 1 + (cnt (ls.take i) 1).toNat + (cnt (ls.take i) 2).toNat = i + 1 by (first | lia | omega)), qs, t0, show ((cnt (ls.take i) 0).toNat : Int) = cnt (ls.take i) 0 from (cnt_bd _ _).symm]
      generalize tab 1 ((cnt (ls.take i) 0).toNat + 1) _ _ = T
      grind
    · simp at t0 t1 t2
      have n0 : (cnt (ls.take (i + 1)) 0).toNat = (cnt (ls.take i) 0).toNat := by (first | lia | omega)
      have n1 : (cnt (ls.take (i + 1)) 1).toNat = (cnt (ls.take i) 1).toNat + 1 := by (first | lia | omega)
      have n2 : (cnt (ls.take (i + 1)) 2).toNat = (cnt (ls.take i) 2).toNat := by (first | lia | omega)
      rw [n0, n1, n2]
      refine ⟨fin _ _ _ _ _ hD (by (first | lia | omega)) ?_ q1, by (first | lia | omega)⟩
      rw [← qi, ← tab_qf 1 (i + 1) _ _ _ (show (cnt (ls.take i) 0).toNat + ((cnt (ls.take i) 1).toNat + 1) + (cnt (ls.take i) 2).toNat = i + 1 by (first | lia | omega)), qs, t1, show ((cnt (ls.take i) 1).toNat : Int) = cnt (ls.take i) 1 from (cnt_bd _ _).symm]
      generalize tab 1 _ ((cnt (ls.take i) 1).toNat + 1) _ = T
      grind
    · simp at t0 t1 t2
      have n0 : (cnt (ls.take (i + 1)) 0).toNat = (cnt (ls.take i) 0).toNat := by (first | lia | omega)
      have n1 : (cnt (ls.take (i + 1)) 1).toNat = (cnt (ls.take i) 1).toNat := by (first | lia | omega)
      have n2 : (cnt (ls.take (i + 1)) 2).toNat = (cnt (ls.take i) 2).toNat + 1 := by (first | lia | omega)
      rw [n0, n1, n2]
      refine ⟨fin _ _ _ _ _ hD (by (first | lia | omega)) ?_ q1, by (first | lia | omega)⟩
      rw [← qi, ← tab_qf 1 (i + 1) _ _ _ (show (cnt (ls.take i) 0).toNat + (cnt (ls.take i) 1).toNat + ((cnt (ls.take i) 2).toNat + 1) = i + 1 by (first | lia | omega)), qs, t2, show ((cnt (ls.take i) 2).toNat : Int) = cnt (ls.take i) 2 from (cnt_bd _ _).symm]
      generalize tab 1 _ _ ((cnt (ls.take i) 2).toNat + 1) = T
      grind
theorem pl_mod {q : Int} {ls : List Int} (h1 : 1000 ≤ q.natAbs) (h2 : q.natAbs ≤ 1999) (h : Wd ls) : (wo q ls).fmod (q - 1) = ordW ls 6 + (if q < 0 then q - 1 else 0) := by
  have e := (ordW_tab h 6 (by (first | lia | omega))).1
  rw [show ls.take 6 = ls from List.take_of_length_le (by rw [h.1]; (first | lia | omega))] at e
  rw [e]
  exact tab_fmod h1 (pl_cnt h).2.2.2
theorem colR_wo {q : Int} {ls : List Int} (h1 : 1000 ≤ q.natAbs) (h : Wd ls) : colR q (wo q ls) 7 = (1, cols ls) := by
  have k := (pl_cnt h).2.2.2
  have n1 := not_f1 h1 k
  obtain ⟨x2, x3, x4, x5, x6⟩ := ex_bd k
  obtain ⟨p, hp, s1, s2, s3, s4⟩ := shp_of h
  unfold wo
  rw [tab_wx h1 k] at n1 ⊢
  unfold wx at n1 ⊢
  rw [col_all h1 x2 x3 x4 x5 x6 n1]
  congr 1
  unfold cols
  refine Eq.trans ?_ s3.symm
  have g : ∀ p : Nat, p < 7 → [0, 9, 12 - ((exL (rep p)).getD 0 0 : Int) * 2, 15 - ((exL (rep p)).getD 1 0 : Int) * 3, 16 - ((exL (rep p)).getD 2 0 : Int) * 4, 20 - ((exL (rep p)).getD 3 0 : Int) * 5, 24 - ((exL (rep p)).getD 4 0 : Int) * 6, 21] = colsC (rep p).1 (rep p).2.1 (rep p).2.2 := by decide +kernel
  rw [← g p hp, ← s4]
  rfl
theorem pl_one {q : Int} {ls : List Int} (h1 : 1000 ≤ q.natAbs) (h2 : q.natAbs ≤ 1999) (h : Wd ls) : (colR q (wo q ls) 7).1 = 1 := by rw [colR_wo h1 h]
theorem pl_cols {q : Int} {ls : List Int} (h1 : 1000 ≤ q.natAbs) (h2 : q.natAbs ≤ 1999) (h : Wd ls) : (colR q (wo q ls) 7).2 = cols ls := by rw [colR_wo h1 h]
def RL (p : Nat) : List Int := cnL (rep p).1 (rep p).2.1 (rep p).2.2
def RT (p : Nat) : List Int := cnT (rep p).1 (rep p).2.1 (rep p).2.2
theorem pl_bare {ls : List Int} (h : Wd ls) : lessV 3 3 0 [3] 9 3 0 (cL ls) = false := by
  obtain ⟨p, hp, s1, s2, s3, s4⟩ := shp_of h
  have g : ∀ p : Nat, p < 7 → lessV 3 3 0 [3] 9 3 0 (RL p) = false := by decide +kernel
  have e : cL ls = RL p := s1
  rw [e]
  exact g p hp
theorem pl_seven {ls : List Int} (h : Wd ls) : lessV 9 3 0 (cL ls) 7 7 0 [7] = false := by
  obtain ⟨p, hp, s1, s2, s3, s4⟩ := shp_of h
  have g : ∀ p : Nat, p < 7 → lessV 9 3 0 (RL p) 7 7 0 [7] = false := by decide +kernel
  have e : cL ls = RL p := s1
  rw [e]
  exact g p hp
theorem pair_g : ∀ p : Nat, p < 7 → ∀ r : Nat, r < 7 → lessV 9 3 0 (RL p) 10 4 0 (RT r) = leE (rep p) (rep r) ∧ lessV 10 3 1 (RL p) 10 4 0 (RT r) = false ∧ lessV 9 3 0 (RL p) 10 3 1 (RL r) = leE (rep p) (rep r) ∧ decide (RL p = RL r) = (leE (rep p) (rep r) && leE (rep r) (rep p)) := by decide +kernel
theorem leE_shp {c c' : Nat × Nat × Nat} {p r : Nat} (h : exL c = exL (rep p)) (h' : exL c' = exL (rep r)) : leE c c' = leE (rep p) (rep r) := by unfold leE; rw [h, h']
section
variable {q : Int} {ls ls' : List Int}
theorem pl_less (h1 : 1000 ≤ q.natAbs) (h2 : q.natAbs ≤ 1999) (h : Wd ls) (h' : Wd ls') : lessV 9 3 0 (cL ls) 10 4 0 (cTt ls') = decide ((wo q ls).fmod (wo q ls') = 0) := by
  obtain ⟨p, hp, s1, s2, s3, s4⟩ := shp_of h
  obtain ⟨r, hr, r1, r2, r3, r4⟩ := shp_of h'
  have e : cL ls = RL p := s1
  have e' : cTt ls' = RT r := r2
  rw [wo_dvd h1 h h', e, e', leE_shp s4 r4]
  exact (pair_g p hp r hr).1
theorem pl_never (h : Wd ls) (h' : Wd ls') : lessV 10 3 1 (cL ls) 10 4 0 (cTt ls') = false := by
  obtain ⟨p, hp, s1, s2, s3, s4⟩ := shp_of h
  obtain ⟨r, hr, r1, r2, r3, r4⟩ := shp_of h'
  have e : cL ls = RL p := s1
  have e' : cTt ls' = RT r := r2
  rw [e, e']
  exact (pair_g p hp r hr).2.1
theorem pl_equal (h1 : 1000 ≤ q.natAbs) (h2 : q.natAbs ≤ 1999) (h : Wd ls) (h' : Wd ls') : decide (cL ls = cL ls') = decide (wo q ls = wo q ls') := by
  obtain ⟨p, hp, s1, s2, s3, s4⟩ := shp_of h
  obtain ⟨r, hr, r1, r2, r3, r4⟩ := shp_of h'
  have e : cL ls = RL p := s1
  have e' : cL ls' = RL r := r1
  rw [wo_eq h1 h h', e, e', leE_shp s4 r4, leE_shp r4 s4]
  exact (pair_g p hp r hr).2.2.2
theorem pl_next (h1 : 1000 ≤ q.natAbs) (h2 : q.natAbs ≤ 1999) (h : Wd ls) (h' : Wd ls') : lessV 9 3 0 (cL ls) 10 3 1 (cL ls') = decide ((wo q ls).fmod (wo q ls') = 0) := by
  obtain ⟨p, hp, s1, s2, s3, s4⟩ := shp_of h
  obtain ⟨r, hr, r1, r2, r3, r4⟩ := shp_of h'
  have e : cL ls = RL p := s1
  have e' : cL ls' = RL r := r1
  rw [wo_dvd h1 h h', e, e', leE_shp s4 r4]
  exact (pair_g p hp r hr).2.2.1
end
def yesB (_ _ : Int) : Bool := true
/-- the column of a word at tab size t -/
def colA (ls : List Int) (t : Int) : Int := (cols ls).getD t.toNat 0
/-- the tab sizes up to n at which a column is above three tabs -/
def hiR (f g : Int → Int) : Nat → List Int
  | 0 => []
  | k + 1 => hiR f g k ++ if (if g (1 + (k : Int)) > f (1 + (k : Int)) then g (1 + (k : Int)) else f (1 + (k : Int))) > 3 * (1 + (k : Int)) then [1 + (k : Int)] else []
theorem wit_congr {cond : Int → Int → Bool} {f g F G : Int → Int} : ∀ {n : Nat}, (∀ k : Nat, k < n → f (1 + (k : Int)) = F (1 + (k : Int)) ∧ g (1 + (k : Int)) = G (1 + (k : Int))) → wit cond f g n = wit cond F G n
  | 0, _ => rfl
  | n + 1, h => by
    obtain ⟨e1, e2⟩ := h n (by omega)
    show wit cond f g n ++ _ = wit cond F G n ++ _
    rw [wit_congr fun k hk => h k (by omega), e1, e2]
theorem wit_yes_len (f g : Int → Int) : ∀ n, (wit yesB f g n).length = n
  | 0 => rfl
  | n + 1 => by
    show (wit yesB f g n ++ [_]).length = _
    rw [List.length_append, wit_yes_len f g n]
    rfl
theorem wit_yes_get (f g : Int → Int) : ∀ (n i : Nat), i < n → (wit yesB f g n)[i]? = some (1 + (i : Int), f (1 + (i : Int)), g (1 + (i : Int)))
  | n + 1, i, h => by
    show (wit yesB f g n ++ [_])[i]? = _
    rw [List.getElem?_append]
    have hl := wit_yes_len f g n
    split
    · exact wit_yes_get f g n i (by omega)
    · have e : i = n := by omega
      subst e
      rw [hl, Nat.sub_self]
      rfl
theorem Rows3.get {news : Led} {vs : List Value} {rs : List (Int × Int × Int)} (h : Rows3 news vs rs) : ∀ {i : Nat} {v : Value}, vs[i]? = some v → ∃ a k x y z t1 t2 t3, v = .ref a ∧ (a, tupOb #[.int x t1, .int y t2, .int z t3] k) ∈ news ∧ rs[i]? = some (x, y, z) := by
  induction h with
  | nil => intro i v h; simp at h
  | @cons a k x y z t1 t2 t3 vs rs hm _ ih =>
    intro i v h
    cases i with
    | zero => simp at h; exact ⟨a, k, x, y, z, t1, t2, t3, h.symm, hm, by simp⟩
    | succ i => simp at h; obtain ⟨a', k', x', y', z', u1, u2, u3, e, hm', hl⟩ := ih h; exact ⟨a', k', x', y', z', u1, u2, u3, e, hm', by simpa using hl⟩
theorem wit_row {f g : Int → Int} {news : Led} {vs : List Value} {n i : Nat} {v : Value} (h : Rows3 news vs (wit yesB f g n)) (hi : i < n) (hv : vs[i]? = some v) : ∃ a k t1 t2 t3, v = .ref a ∧ (a, tupOb #[.int (1 + (i : Int)) t1, .int (f (1 + (i : Int))) t2, .int (g (1 + (i : Int))) t3] k) ∈ news := by
  obtain ⟨a, k, x, y, z, t1, t2, t3, e, hm, hr⟩ := h.get hv
  rw [wit_yes_get f g n i hi] at hr
  cases hr
  exact ⟨a, k, t1, t2, t3, e, hm⟩
/-- the tab size behind the highest at which a column tells -/
def hiM (p r : Nat) : Nat := max ((RL p).length - 1) ((RL r).length - 1) + 1
theorem hi_g : ∀ p : Nat, p < 7 → ∀ r : Nat, r < 7 → (hiM p r ≤ 7 ∧ 2 ≤ hiM p r) ∧
    (0 < (hiR (fun t => (colsC (rep p).1 (rep p).2.1 (rep p).2.2).getD t.toNat 0) (fun t => (colsC (rep r).1 (rep r).2.1 (rep r).2.2).getD t.toNat 0) 7).length ∧
     ∀ M ∈ hiR (fun t => (colsC (rep p).1 (rep p).2.1 (rep p).2.2).getD t.toNat 0) (fun t => (colsC (rep r).1 (rep r).2.1 (rep r).2.2).getD t.toNat 0) 7,
      (∀ a ∈ hiR (fun t => (colsC (rep p).1 (rep p).2.1 (rep p).2.2).getD t.toNat 0) (fun t => (colsC (rep r).1 (rep r).2.1 (rep r).2.2).getD t.toNat 0) 7, a ≤ M) → 1 + M = (hiM p r : Int)) := by decide +kernel
theorem lvl_g : ∀ p : Nat, p < 7 → ∀ k : Nat, k < 7 → lvl 3 1 (RL p) (1 + (k : Int)) = (colsC (rep p).1 (rep p).2.1 (rep p).2.2).getD (1 + (k : Int)).toNat 0 + 1 ∧
    lvl 3 0 (RL p) (1 + (k : Int)) = (colsC (rep p).1 (rep p).2.1 (rep p).2.2).getD (1 + (k : Int)).toNat 0 ∧
    lvl 4 0 (RT p) (1 + (k : Int)) = (colsC (rep p).1 (rep p).2.1 (rep p).2.2).getD (1 + (k : Int)).toNat 0 + (1 + (k : Int)) := by decide +kernel
theorem hi_n : ∀ p : Nat, p < 7 → ∀ r : Nat, r < 7 → (max (max (((RL p).length : Int) - 1) 1) (max (((RL r).length : Int) - 1) 1) + 1).toNat = hiM p r ∧ (max (max (((RL p).length : Int) - 1) 0) (max (((RT r).length : Int) - 1) 0) + 1).toNat = hiM p r := by decide +kernel
/-- what the two witnesses ask of the plain law: the highest tab size, and both lists -/
theorem pl_high {ls ls' : List Int} (h : Wd ls) (h' : Wd ls') : ∃ n : Nat, 2 ≤ n ∧ n ≤ 7 ∧ 0 < (hiR (colA ls) (colA ls') 7).length ∧
    (∀ M : Int, M ∈ hiR (colA ls) (colA ls') 7 → (∀ a, a ∈ hiR (colA ls) (colA ls') 7 → a ≤ M) → 1 + M = (n : Int)) ∧
    wit geB (lvl 3 1 (cL ls)) (lvl 3 1 (cL ls')) (max (max (((cL ls).length : Int) - 1) 1) (max (((cL ls').length : Int) - 1) 1) + 1).toNat = wit geB (fun t => colA ls t + 1) (fun t => colA ls' t + 1) n ∧
    wit neB (lvl 3 0 (cL ls)) (lvl 4 0 (cTt ls')) (max (max (((cL ls).length : Int) - 1) 0) (max (((cTt ls').length : Int) - 1) 0) + 1).toNat = wit neB (colA ls) (fun t => colA ls' t + t) n := by
  obtain ⟨p, hp, s1, s2, s3, s4⟩ := shp_of h
  obtain ⟨r, hr, r1, r2, r3, r4⟩ := shp_of h'
  have e1 : cL ls = RL p := s1
  have e2 : cL ls' = RL r := r1
  have e3 : cTt ls' = RT r := r2
  have e4 : colA ls = fun t => (colsC (rep p).1 (rep p).2.1 (rep p).2.2).getD t.toNat 0 := by funext t; unfold colA; rw [show cols ls = _ from s3]
  have e5 : colA ls' = fun t => (colsC (rep r).1 (rep r).2.1 (rep r).2.2).getD t.toNat 0 := by funext t; unfold colA; rw [show cols ls' = _ from r3]
  obtain ⟨⟨b1, b2⟩, b3, b4⟩ := hi_g p hp r hr
  rw [e4, e5, e1, e2, e3]
  obtain ⟨n1, n2⟩ := hi_n p hp r hr
  rw [n1, n2]
  refine ⟨hiM p r, b2, b1, b3, b4, wit_congr fun k hk => ?_, wit_congr fun k hk => ?_⟩
  · exact ⟨(lvl_g p hp k (by omega)).1, (lvl_g r hr k (by omega)).1⟩
  · exact ⟨(lvl_g p hp k (by omega)).2.1, (lvl_g r hr k (by omega)).2.2⟩
structure Saved (P : Prop) : Prop where
  out : P
theorem wd_of {xs : List Int} (h : xs.length = 6) (f : Int → Int) (hf : ∀ x, 0 ≤ f x ∧ f x < 3) : Wd (xs.map f) := ⟨by rw [List.length_map, h], fun l hl => by obtain ⟨x, _, rfl⟩ := List.mem_map.mp hl; exact hf x⟩
theorem lw_w3 {R : Led} {a b c v : Value} {l0 l1 l2 : List Int} {i : Nat} (h : (#[a, b, c] : Array Value)[i]? = some v) (h0 : IsWord R a l0) (h1 : IsWord R b l1) (h2 : IsWord R c l2) (d0 : Wd l0) (d1 : Wd l1) (d2 : Wd l2) : IsWord R v ([l0, l1, l2].getD i []) ∧ Wd ([l0, l1, l2].getD i []) := by
  match i with
  | 0 => simp at h; subst h; exact ⟨h0, d0⟩
  | 1 => simp at h; subst h; exact ⟨h1, d1⟩
  | 2 => simp at h; subst h; exact ⟨h2, d2⟩
  | n + 3 => simp at h
def WoP (q : Int) (ll : List (List Int)) (k : Nat) (v : Value) (_ : Led) : Prop := ∃ t, v = .int (wo q (ll.getD k [])) t
theorem WoP.mono (q : Int) (ll : List (List Int)) : ∀ k v t t', (∀ p ∈ t, p ∈ t') → WoP q ll k v t → WoP q ll k v t' := fun _ _ _ _ _ h => h
theorem lw_d3 {l0 l1 l2 : List Int} {i : Nat} (hi : i < 3) (d0 : Wd l0) (d1 : Wd l1) (d2 : Wd l2) : Wd ([l0, l1, l2].getD i []) := by
  match i, hi with
  | 0, _ => exact d0
  | 1, _ => exact d1
  | 2, _ => exact d2
theorem lw_i3 {q : Int} {v : Value} {l0 l1 l2 : List Int} {t0 t1 t2 : Tok} {i : Nat} (h : ([.int (wo q l0) t0, .int (wo q l1) t1, .int (wo q l2) t2] : List Value).toArray[i]? = some v) : ∃ t, v = .int (wo q ([l0, l1, l2].getD i [])) t := by
  match i with
  | 0 => simp at h; exact ⟨t0, h.symm⟩
  | 1 => simp at h; exact ⟨t1, h.symm⟩
  | 2 => simp at h; exact ⟨t2, h.symm⟩
  | n + 3 => simp at h
def TaP (q : Int) (ll : List (List Int)) (k : Nat) (v : Value) (tw : Led) : Prop := ∃ la vs kk, v = .ref la ∧ (la, listOf vs.toArray kk) ∈ tw ∧ IntsAre vs (colR q (wo q (ll.getD k [])) 7).2
theorem TaP.mono (q : Int) (ll : List (List Int)) : ∀ k v t t', (∀ p ∈ t, p ∈ t') → TaP q ll k v t → TaP q ll k v t' := fun _ _ _ _ hs ⟨la, vs, kk, e, hm, hi⟩ => ⟨la, vs, kk, e, hs _ hm, hi⟩
def LeP (w : World) (n nt b : Int) (f : List Int → List Int) (ll : List (List Int)) (k : Nat) (v : Value) (tw : Led) : Prop := Ws w tw v n nt b (f (ll.getD k []))
theorem LeP.mono (w : World) (n nt b : Int) (f : List Int → List Int) (ll : List (List Int)) : ∀ k v t t', (∀ p ∈ t, p ∈ t') → LeP w n nt b f ll k v t → LeP w n nt b f ll k v t' := fun _ _ _ _ hs h => Ws.mono h hs
theorem LeP.of {w : World} {n nt b : Int} {f : List Int → List Int} {ll : List (List Int)} {k : Nat} {v : Value} {tw : Led} {cs : List Nat} (h : ∃ n nt b cn, scan cs 0 0 0 [] = (n, nt, b, cn) ∧ Ws w tw v n nt b cn) (e : scan cs 0 0 0 [] = (n, nt, b, f (ll.getD k []))) : LeP w n nt b f ll k v tw := by
  obtain ⟨n', nt', b', cn', e', hw⟩ := h
  rw [e] at e'
  cases e'
  exact hw
theorem init_of {w : World} {tw : Led} {v : Value} {cs : List Nat} {n nt b : Int} {cn : List Int} (h : ∃ n nt b cn, scan cs 0 0 0 [] = (n, nt, b, cn) ∧ Ws w tw v n nt b cn) (e : scan cs 0 0 0 [] = (n, nt, b, cn)) : Ws w tw v n nt b cn := by
  obtain ⟨n', nt', b', cn', e', hw⟩ := h
  rw [e] at e'
  cases e'
  exact hw
theorem gat_cut {C : Prop} {P : Nat → Value → Led → Prop} {nw' Z : Led} {ys : List Value} {n : Nat} (hJ : ∃ tw, nw' = tw ++ Z ∧ Gat P tw ys n ∧ Dj tw Z) (k : ∀ tw, nw' = tw ++ Z → Gat P tw ys n → Dj tw Z → C) : C := by
  obtain ⟨tw, a, b, c⟩ := hJ
  exact k tw a b c
theorem gat_wo {C : Prop} {q : Int} {ll : List (List Int)} {nw' Z : Led} {ys : List Value} (hJ : ∃ tw, nw' = tw ++ Z ∧ Gat (WoP q ll) tw ys 3 ∧ Dj tw Z)
    (k : ∀ tw t0 t1 t2, nw' = tw ++ Z → ys = [.int (wo q (ll.getD 0 [])) t0, .int (wo q (ll.getD 1 [])) t1, .int (wo q (ll.getD 2 [])) t2] → Dj tw Z → C) : C := by
  obtain ⟨tw, a, b, c⟩ := hJ
  obtain ⟨y0, y1, y2, e, ⟨t0, rfl⟩, ⟨t1, rfl⟩, ⟨t2, rfl⟩⟩ := Gat.three b
  exact k tw t0 t1 t2 a e c
theorem gat_ta {C : Prop} {q : Int} {ll : List (List Int)} {nw' Z : Led} {ys : List Value} (hJ : ∃ tw, nw' = tw ++ Z ∧ Gat (TaP q ll) tw ys 3 ∧ Dj tw Z)
    (k : ∀ tw (a0 a1 a2 : Addr) (v0 v1 v2 : List Value) (n0 n1 n2 : Nat), nw' = tw ++ Z → ys = [.ref a0, .ref a1, .ref a2] → Dj tw Z → (a0, listOf v0.toArray n0) ∈ tw → (a1, listOf v1.toArray n1) ∈ tw → (a2, listOf v2.toArray n2) ∈ tw →
      IntsAre v0 (colR q (wo q (ll.getD 0 [])) 7).2 → IntsAre v1 (colR q (wo q (ll.getD 1 [])) 7).2 → IntsAre v2 (colR q (wo q (ll.getD 2 [])) 7).2 → C) : C := by
  obtain ⟨tw, a, b, c⟩ := hJ
  obtain ⟨y0, y1, y2, e, ⟨a0, v0, n0, rfl, m0, i0⟩, ⟨a1, v1, n1, rfl, m1, i1⟩, ⟨a2, v2, n2, rfl, m2, i2⟩⟩ := Gat.three b
  exact k tw a0 a1 a2 v0 v1 v2 n0 n1 n2 a e c m0 m1 m2 i0 i1 i2
theorem gat_le {C : Prop} {w : World} {n nt b : Int} {f : List Int → List Int} {ll : List (List Int)} {nw' Z : Led} {ys : List Value} (hJ : ∃ tw, nw' = tw ++ Z ∧ Gat (LeP w n nt b f ll) tw ys 3 ∧ Dj tw Z)
    (k : ∀ tw y0 y1 y2, nw' = tw ++ Z → ys = [y0, y1, y2] → Dj tw Z → Ws w tw y0 n nt b (f (ll.getD 0 [])) → Ws w tw y1 n nt b (f (ll.getD 1 [])) → Ws w tw y2 n nt b (f (ll.getD 2 [])) → C) : C := by
  obtain ⟨tw, a, b, c⟩ := hJ
  obtain ⟨y0, y1, y2, e, p0, p1, p2⟩ := Gat.three b
  exact k tw y0 y1 y2 a e c p0 p1 p2
noncomputable def st1 : { P : Prop // Saved P → PySem.Challenge.rw_pk0080_01.Holds } := ⟨_, fun hP1 => Mine.hd (by
  k_go0
  rename World => wW
  rename (CellsAre _ _ _) => X0
  clear X0
  rename (¬ _ < ((List.length _ : Nat) : Int)) => h63
  rename (Heap.IsList _ _ _) => hLs
  rename (IntsAre _ _) => hIs
  obtain ⟨sa, svs, sns, e1, e2, e3, hLs', hIs', h63'⟩ := lw_list hLs hIs h63
  subst e1; subst e2; subst e3
  rename Fr _ _ _ (bindL _ _ _) => lF
  with_unfolding_all replace lF : Fr _ _ _ (kstB (fun _ => none) [(Str.ofString "script", .ref sa)]) := lF
  (repeat' (first | (k_unfold; (try dsimp only)) | (k_end; wrow_close) | ((with_reducible show wpAny _ _ (execs (_ :: _) _) _ _ (Shared.mk _ _ _ (_ + 1) _)); (with_reducible refine toks_cut ?_); intro _) | ((fail_if_success with_reducible (first | show wpAny _ _ (call (Value.ref _) _) _ _ _ | show wpAny _ _ (exec (Stmt.For _ _ _ _ _) _) _ _ _ | show wpAny _ _ (pyIter _) _ _ _ | show wpAny _ _ (exec (Stmt.Assign _ (Expr.ListComp _ _ _ _) _) _) _ _ _ | show wpAny _ _ (eval (Expr.ListComp _ _ _ _) _) _ _ _ | show LCg.CompSrc _ _ _ _ _ _ _ _ _ _ _ _ _ _ | show LCg.CompEnd _ _ _ _ _ _ _ _ _ _ _ _ _ _ | show LCt.CompSrcT _ _ _ _ _ _ _ _ _ _ _ _ _ _ _)); first | walk1 | (dsimp only; walk1)) | (leave1; try dsimp only) | fail))
  rename (Obj.data _ = Data.cell (some (Value.int _ _))) => dq
  refine lw_qE dq ?_
  intro oq q tq e1 eq dq'
  subst e1
  clear dq
  revert dq'
  rename (Obj.data _ = Data.cell _) => dx
  clear dx
  rename (Obj.data _ = Data.cell _) => c2
  revert c2
  rename (Obj.data _ = Data.cell _) => c3
  revert c3
  rename (Obj.data _ = Data.cell _) => c4
  revert c4
  rename (Obj.data _ = Data.cell _) => c5
  revert c5
  rename (Obj.data _ = Data.cell _) => c6
  revert c6
  rename (Obj.data _ = Data.cell _) => c7
  intro c6 c5 c4 c3 c2 dq'
  refine lw_cE c2 ?_
  intro o2 e1 c2'
  subst e1
  clear c2
  with_unfolding_all replace c2' : o2.data = Data.cell none := c2'
  refine lw_cE c3 ?_
  intro o3 e1 c3'
  subst e1
  clear c3
  with_unfolding_all replace c3' : o3.data = Data.cell none := c3'
  refine lw_cE c4 ?_
  intro o4 e1 c4'
  subst e1
  clear c4
  with_unfolding_all replace c4' : o4.data = Data.cell none := c4'
  refine lw_cE c5 ?_
  intro o5 e1 c5'
  subst e1
  clear c5
  with_unfolding_all replace c5' : o5.data = Data.cell none := c5'
  refine lw_cE c6 ?_
  intro o6 e1 c6'
  subst e1
  clear c6
  with_unfolding_all replace c6' : o6.data = Data.cell none := c6'
  refine lw_cE c7 ?_
  intro o7 e1 c7'
  subst e1
  clear c7
  with_unfolding_all replace c7' : o7.data = Data.cell none := c7'
  k_dflt (refine' words_ct _ _ _ _ _ _ _ _ _ _ _ _ _ _ _ _ _ _ _ _ _ _ ?kB ?kF ?kX ?kN ?kT ?kk ?kd ?ku _ _ _ hLs' hIs' h63' ?_; (case kB => k_asm); (case kF => k_asm); (case kX => k_asm); (case kN => k_asm); (case kT => k_asm); (case kk => exact rfl); (case kd => (with_unfolding_all decide)); (case ku => (with_unfolding_all decide)))
  k_whole
  intro r1 tl1 h1 tk1 lF lN0 hne1 hP1
  obtain ⟨wa, ww0, ww1, ww2, kw, xs, er, hx6, hwm, hw0, hw1, hw2⟩ := hP1
  subst er
  refine lw_callE (R := []) lN0 hne1 (fun _ h => nomatch h) ?_
  intro R1 lN hA1 hs1 hs1'
  clear lN0
  replace hwm := hs1 _ hwm
  replace hw0 := hw0.mono hs1
  replace hw1 := hw1.mono hs1
  replace hw2 := hw2.mono hs1
  clear hs1 hs1' hne1 tl1
  simp only [cells7] at lN
  obtain ⟨hq1, hq2⟩ := pl_q eq
  have hwd0 : Wd (xs.map (fun x => x.fmod 3)) := wd_of hx6 _ (fun x => ⟨Int.fmod_nonneg_of_pos _ (by decide), Int.fmod_lt_of_pos _ (by decide)⟩)
  have hwd1 : Wd (xs.map (fun x => (x.fdiv 3).fmod 3)) := wd_of hx6 _ (fun x => ⟨Int.fmod_nonneg_of_pos _ (by decide), Int.fmod_lt_of_pos _ (by decide)⟩)
  have hwd2 : Wd (xs.map (fun _ => 0)) := wd_of hx6 _ (fun x => by decide)
  generalize xs.map (fun x => x.fmod 3) = l0 at hw0 hwd0
  generalize xs.map (fun x => (x.fdiv 3).fmod 3) = l1 at hw1 hwd1
  generalize xs.map (fun _ => (0 : Int)) = l2 at hw2 hwd2
  clear eq hx6 hLs hLs' hIs hIs' h63 h63'
  try dsimp only
  try k_sweep
  try k_fold
  (repeat' (first | (k_unfold; (try dsimp only)) | (k_end; wrow_close) | ((with_reducible show wpAny _ _ (execs (_ :: _) _) _ _ (Shared.mk _ _ _ (_ + 1) _)); (with_reducible refine toks_cut ?_); intro _) | ((fail_if_success with_reducible (first | show wpAny _ _ (call (Value.ref _) _) _ _ _ | show wpAny _ _ (exec (Stmt.For _ _ _ _ _) _) _ _ _ | show wpAny _ _ (pyIter _) _ _ _ | show wpAny _ _ (exec (Stmt.Assign _ (Expr.ListComp _ _ _ _) _) _) _ _ _ | show wpAny _ _ (eval (Expr.ListComp _ _ _ _) _) _ _ _ | show LCg.CompSrc _ _ _ _ _ _ _ _ _ _ _ _ _ _ | show LCg.CompEnd _ _ _ _ _ _ _ _ _ _ _ _ _ _ | show LCt.CompSrcT _ _ _ _ _ _ _ _ _ _ _ _ _ _ _)); first | walk1 | (dsimp only; walk1)) | (leave1; try dsimp only) | fail))
  k_dflt (refine LCg.Assign_ListComp_U (F₀ := by k_asm) (by rfl) (by with_unfolding_all rfl) (by rfl) (by decide) (by rfl) (by decide) (by rfl) (by rfl) (by rfl) ?_)
  (repeat' (first | (k_unfold; (try dsimp only)) | (k_end; wrow_close) | ((with_reducible show wpAny _ _ (execs (_ :: _) _) _ _ (Shared.mk _ _ _ (_ + 1) _)); (with_reducible refine toks_cut ?_); intro _) | ((fail_if_success with_reducible (first | show wpAny _ _ (call (Value.ref _) _) _ _ _ | show wpAny _ _ (exec (Stmt.For _ _ _ _ _) _) _ _ _ | show wpAny _ _ (pyIter _) _ _ _ | show wpAny _ _ (exec (Stmt.Assign _ (Expr.ListComp _ _ _ _) _) _) _ _ _ | show wpAny _ _ (eval (Expr.ListComp _ _ _ _) _) _ _ _ | show LCg.CompSrc _ _ _ _ _ _ _ _ _ _ _ _ _ _ | show LCg.CompEnd _ _ _ _ _ _ _ _ _ _ _ _ _ _ | show LCt.CompSrcT _ _ _ _ _ _ _ _ _ _ _ _ _ _ _)); first | walk1 | (dsimp only; walk1)) | (leave1; try dsimp only) | fail))
  rename Fr _ _ _ _ => lF
  rename News _ _ _ _ => lN
  refine lw_ZE hA1 oq o2 o3 o4 o5 o6 o7 lN ?_
  intro Z eZ lN hqZ hfZ hRZ
  have hwZ := hRZ _ hwm
  with_unfolding_all refine LCg.CompSrc.ledger (its := #[Value.ref ww0, Value.ref ww1, Value.ref ww2]) (k := kw) (by rfl) lF lN hwZ (by show 3 ≤ sizeLine; decide) ?_
  intro g1
  refine cr_inv (fun i ys nw' => ∃ tw, nw' = tw ++ Z ∧ Gat (WoP q [l0, l1, l2]) tw ys i ∧ Dj tw Z) ⟨[], rfl, Gat.nil, fun _ _ _ h => nomatch h⟩ ?_ ?_
  · intro i v I oI C oC D m₂ ys nw' h tk E' hi hv hJ hC hx F1 N1 off ne
    refine gat_cut hJ ?_
    intro tw eg1 hG hdj
    subst eg1
    clear hJ
    have hwv := (lw_w3 hv hw0 hw1 hw2 hwd0 hwd1 hwd2).1
    have hdv := (lw_w3 hv hw0 hw1 hw2 hwd0 hwd1 hwd2).2
    have hc0 := (pl_cnt hdv).1
    have hc1 := (pl_cnt hdv).2.1
    have hc2 := (pl_cnt hdv).2.2.1
    have hcs := (pl_cnt hdv).2.2.2
    try k_fold
    (repeat' (first | (k_unfold; (try dsimp only)) | (k_end; wrow_close) | ((with_reducible show wpAny _ _ (execs (_ :: _) _) _ _ (Shared.mk _ _ _ (_ + 1) _)); (with_reducible refine toks_cut ?_); intro _) | ((fail_if_success with_reducible (first | show wpAny _ _ (call (Value.ref _) _) _ _ _ | show wpAny _ _ (exec (Stmt.For _ _ _ _ _) _) _ _ _ | show wpAny _ _ (pyIter _) _ _ _ | show wpAny _ _ (exec (Stmt.Assign _ (Expr.ListComp _ _ _ _) _) _) _ _ _ | show wpAny _ _ (eval (Expr.ListComp _ _ _ _) _) _ _ _ | show LCg.CompSrc _ _ _ _ _ _ _ _ _ _ _ _ _ _ | show LCg.CompEnd _ _ _ _ _ _ _ _ _ _ _ _ _ _ | show LCt.CompSrcT _ _ _ _ _ _ _ _ _ _ _ _ _ _ _)); first | walk1 | (dsimp only; walk1)) | (leave1; try dsimp only) | fail))
    k_dflt (refine' ct_use (worth_ct _ _ _ _ _ _ q _ hdv.1 (by omega) _ _ _ hc0 hc1 hc2 hcs) ?kB ?kF ?kX ?kN ?kT ?kk ?kP ?kd ?ku ?_; (case kB => k_asm); (case kF => k_asm); (case kX => k_asm); (case kN => k_asm); (case kT => k_asm); (case kk => exact rfl); (case kP => exact hwv.mono (fun p hp => .tail _ (.tail _ (.tail _ (List.mem_append.mpr (.inr (hRZ p hp))))))); (case kd => (with_unfolding_all decide)); (case ku => (with_unfolding_all decide)))
    k_whole
    intro r2 tl2 h2 tk2 F2 N2 hne2 hP2
    try dsimp only
    try k_fold
    exact LCg.CompEnd.intro (by k_asm) (by k_asm) _ (fun p hp => lw_sub hp) (lw_off hne2 off) (Or.inr ⟨_, List.mem_append.mpr (.inr hwZ), rfl, _, rfl⟩) ⟨tl2 ++ tw, rfl, Gat.snoc (WoP.mono _ _) hG hP2.2, lw_dj hne2 hdj⟩
  · intro ys nw' hJ
    refine gat_wo hJ ?_
    intro tw t0 t1 t2 eg1 eg2 hdj
    subst eg1
    subst eg2
    clear hJ
    unfold LCg.FinA
    intro D h tk F1 N1 o1
    refine lw_compE eZ N1 o1 hdj hA1 ?_
    intro R2 lN hA2 hDm hs1 hsR2
    simp only [cells7] at lN
    replace hwm := hsR2 _ hwm
    replace hw0 := hw0.mono hsR2
    replace hw1 := hw1.mono hsR2
    replace hw2 := hw2.mono hsR2
    clear hs1 o1 N1 hdj hA1 hqZ hfZ hRZ hwZ eZ
    try k_fold
    (repeat' (first | (k_unfold; (try dsimp only)) | (k_end; wrow_close) | ((with_reducible show wpAny _ _ (execs (_ :: _) _) _ _ (Shared.mk _ _ _ (_ + 1) _)); (with_reducible refine toks_cut ?_); intro _) | ((fail_if_success with_reducible (first | show wpAny _ _ (call (Value.ref _) _) _ _ _ | show wpAny _ _ (exec (Stmt.For _ _ _ _ _) _) _ _ _ | show wpAny _ _ (pyIter _) _ _ _ | show wpAny _ _ (exec (Stmt.Assign _ (Expr.ListComp _ _ _ _) _) _) _ _ _ | show wpAny _ _ (eval (Expr.ListComp _ _ _ _) _) _ _ _ | show LCg.CompSrc _ _ _ _ _ _ _ _ _ _ _ _ _ _ | show LCg.CompEnd _ _ _ _ _ _ _ _ _ _ _ _ _ _ | show LCt.CompSrcT _ _ _ _ _ _ _ _ _ _ _ _ _ _ _)); first | walk1 | (dsimp only; walk1)) | (leave1; try dsimp only) | fail))
    have hn2 : ∀ p ∈ R2, p.1 ≠ _ := fun p hp => (hA2 p hp).2.1
    k_dflt (refine' ct_use (factors_ct _ _ _ _ q _ (by omega) (pl_nz hq1) (pl_bd hq2) (pl_in hq1)) ?kB ?kF ?kX ?kN ?kT ?kk ?kP ?kd ?ku ?_; (case kB => k_asm); (case kF => k_asm); (case kX => k_asm); (case kN => k_asm); (case kT => k_asm); (case kk => exact rfl); (case kP => exact trivial); (case kd => (with_unfolding_all decide)); (case ku => (with_unfolding_all decide)))
    k_whole
    intro r3 tl3 h3 tk3 lF lN3 hne3 hP3
    obtain ⟨fa, fvs, fk, er, hfm, hfi⟩ := hP3
    subst er
    clear lN
    refine lw_callE lN3 hne3 hA2 ?_
    intro R3 lN hA3 hs1 hsR3
    simp only [cells7] at lN
    replace hwm := hsR3 _ hwm
    replace hw0 := hw0.mono hsR3
    replace hw1 := hw1.mono hsR3
    replace hw2 := hw2.mono hsR3
    replace hDm := hsR3 _ hDm
    replace hfm := hs1 _ hfm
    clear hs1 hne3 lN3 hn2 hA2
    have hn2 : ∀ p ∈ R3, p.1 ≠ _ := fun p hp => (hA3 p hp).2.1
    try dsimp only
    try k_fold
    (repeat' (first | (k_unfold; (try dsimp only)) | (k_end; wrow_close) | ((with_reducible show wpAny _ _ (execs (_ :: _) _) _ _ (Shared.mk _ _ _ (_ + 1) _)); (with_reducible refine toks_cut ?_); intro _) | ((fail_if_success with_reducible (first | show wpAny _ _ (call (Value.ref _) _) _ _ _ | show wpAny _ _ (exec (Stmt.For _ _ _ _ _) _) _ _ _ | show wpAny _ _ (pyIter _) _ _ _ | show wpAny _ _ (exec (Stmt.Assign _ (Expr.ListComp _ _ _ _) _) _) _ _ _ | show wpAny _ _ (eval (Expr.ListComp _ _ _ _) _) _ _ _ | show LCg.CompSrc _ _ _ _ _ _ _ _ _ _ _ _ _ _ | show LCg.CompEnd _ _ _ _ _ _ _ _ _ _ _ _ _ _ | show LCt.CompSrcT _ _ _ _ _ _ _ _ _ _ _ _ _ _ _)); first | walk1 | (dsimp only; walk1)) | (leave1; try dsimp only) | fail))
    rename (Obj.data _ = Data.cell (some (Value.ref _))) => df
    refine lw_cE df ?_
    intro of e1 df'
    subst e1
    clear df c2' lF lN
    walk1
    k_dflt (refine LCg.ListComp_U (F₀ := by k_asm) (by rfl) (by decide) (by rfl) (by decide) (by rfl) ?_)
    (repeat' (first | (k_unfold; (try dsimp only)) | (k_end; wrow_close) | ((with_reducible show wpAny _ _ (execs (_ :: _) _) _ _ (Shared.mk _ _ _ (_ + 1) _)); (with_reducible refine toks_cut ?_); intro _) | ((fail_if_success with_reducible (first | show wpAny _ _ (call (Value.ref _) _) _ _ _ | show wpAny _ _ (exec (Stmt.For _ _ _ _ _) _) _ _ _ | show wpAny _ _ (pyIter _) _ _ _ | show wpAny _ _ (exec (Stmt.Assign _ (Expr.ListComp _ _ _ _) _) _) _ _ _ | show wpAny _ _ (eval (Expr.ListComp _ _ _ _) _) _ _ _ | show LCg.CompSrc _ _ _ _ _ _ _ _ _ _ _ _ _ _ | show LCg.CompEnd _ _ _ _ _ _ _ _ _ _ _ _ _ _ | show LCt.CompSrcT _ _ _ _ _ _ _ _ _ _ _ _ _ _ _)); first | walk1 | (dsimp only; walk1)) | (leave1; try dsimp only) | fail))
    rename Fr _ _ _ _ => lF
    rename News _ _ _ _ => lN
    refine lw_ZE hA3 oq of o3 o4 o5 o6 o7 lN ?_
    intro Z3 eZ lN hqZ hfZ hRZ
    have hDZ := hRZ _ hDm
    have hmZ := hRZ _ hfm
    with_unfolding_all refine LCg.CompSrc.ledger (k := _) (by rfl) lF lN hDZ (by show 3 ≤ sizeLine; decide) ?_
    intro g3
    refine cr_inv (fun i ys nw' => ∃ tw, nw' = tw ++ Z3 ∧ Gat (TaP q [l0, l1, l2]) tw ys i ∧ Dj tw Z3) ⟨[], rfl, Gat.nil, fun _ _ _ h => nomatch h⟩ ?_ ?_
    · intro i v I oI C oC D m₂ ys nw' h tk E' hi hv hJ hC hx F1 N1 off ne
      refine gat_cut hJ ?_
      intro tw eg1 hG hdj
      subst eg1
      clear hJ
      obtain ⟨tv, rfl⟩ := lw_i3 hv
      have hdv := lw_d3 hi hwd0 hwd1 hwd2
      try k_fold
      (repeat' (first | (k_unfold; (try dsimp only)) | (k_end; wrow_close) | ((with_reducible show wpAny _ _ (execs (_ :: _) _) _ _ (Shared.mk _ _ _ (_ + 1) _)); (with_reducible refine toks_cut ?_); intro _) | ((fail_if_success with_reducible (first | show wpAny _ _ (call (Value.ref _) _) _ _ _ | show wpAny _ _ (exec (Stmt.For _ _ _ _ _) _) _ _ _ | show wpAny _ _ (pyIter _) _ _ _ | show wpAny _ _ (exec (Stmt.Assign _ (Expr.ListComp _ _ _ _) _) _) _ _ _ | show wpAny _ _ (eval (Expr.ListComp _ _ _ _) _) _ _ _ | show LCg.CompSrc _ _ _ _ _ _ _ _ _ _ _ _ _ _ | show LCg.CompEnd _ _ _ _ _ _ _ _ _ _ _ _ _ _ | show LCt.CompSrcT _ _ _ _ _ _ _ _ _ _ _ _ _ _ _)); first | walk1 | (dsimp only; walk1)) | (leave1; try dsimp only) | fail))
      k_dflt (refine' ct_use (columns_ct _ _ _ _ q _ _ _ (pl_nz hq1) (pl_bd hq2) (pl_one hq1 hq2 hdv)) ?kB ?kF ?kX ?kN ?kT ?kk ?kP ?kd ?ku ?_; (case kB => k_asm); (case kF => k_asm); (case kX => k_asm); (case kN => k_asm); (case kT => k_asm); (case kk => exact rfl); (case kP => exact ⟨_, _, _, rfl, .tail _ (.tail _ (.tail _ (List.mem_append.mpr (.inr hmZ)))), hfi⟩); (case kd => (with_unfolding_all decide)); (case ku => (with_unfolding_all decide)))
      k_whole
      intro r2 tl2 h2 tk2 F2 N2 hne2 hP2
      try dsimp only
      try k_fold
      exact LCg.CompEnd.intro (by k_asm) (by k_asm) _ (fun p hp => lw_sub hp) (lw_off hne2 off) (Or.inr ⟨_, List.mem_append.mpr (.inr hDZ), rfl, _, rfl⟩) ⟨tl2 ++ tw, rfl, Gat.snoc (TaP.mono _ _) hG hP2, lw_dj hne2 hdj⟩
    · intro ys nw' hJ
      refine gat_ta hJ ?_
      intro tw ta0 ta1 ta2 tv0 tv1 tv2 tk0 tk1 tk2 eg1 eg2 hdj hta0 hta1 hta2 hti0 hti1 hti2
      subst eg1
      subst eg2
      clear hJ
      unfold LCg.FinE
      intro Dt h tk F1 N1 o1
      refine lw_compE eZ N1 o1 hdj hA3 ?_
      intro R4 lN hA4 htm hs1 hsR4
      simp only [cells7] at lN
      replace hwm := hsR4 _ hwm
      replace hw0 := hw0.mono hsR4
      replace hw1 := hw1.mono hsR4
      replace hw2 := hw2.mono hsR4
      replace hta0 := hs1 _ hta0
      replace hta1 := hs1 _ hta1
      replace hta2 := hs1 _ hta2
      clear hs1 o1 N1 hdj hA3 hqZ hfZ hRZ hDZ hmZ eZ hfm hn2
      have hn3 : ∀ p ∈ R4, p.1 ≠ _ := fun p hp => (hA4 p hp).2.2.1
      try k_fold
      (repeat' (first | (k_unfold; (try dsimp only)) | (k_end; wrow_close) | ((with_reducible show wpAny _ _ (execs (_ :: _) _) _ _ (Shared.mk _ _ _ (_ + 1) _)); (with_reducible refine toks_cut ?_); intro _) | ((fail_if_success with_reducible (first | show wpAny _ _ (call (Value.ref _) _) _ _ _ | show wpAny _ _ (exec (Stmt.For _ _ _ _ _) _) _ _ _ | show wpAny _ _ (pyIter _) _ _ _ | show wpAny _ _ (exec (Stmt.Assign _ (Expr.ListComp _ _ _ _) _) _) _ _ _ | show wpAny _ _ (eval (Expr.ListComp _ _ _ _) _) _ _ _ | show LCg.CompSrc _ _ _ _ _ _ _ _ _ _ _ _ _ _ | show LCg.CompEnd _ _ _ _ _ _ _ _ _ _ _ _ _ _ | show LCt.CompSrcT _ _ _ _ _ _ _ _ _ _ _ _ _ _ _)); first | walk1 | (dsimp only; walk1)) | (leave1; try dsimp only) | fail))
      rename (Obj.data _ = Data.cell (some (Value.ref Dt))) => dt
      refine lw_cE dt ?_
      intro ot e1 dt'
      subst e1
      clear dt c3' hn3
      k_dflt (refine LCg.Assign_ListComp_U (F₀ := by k_asm) (by rfl) (by with_unfolding_all rfl) (by rfl) (by decide) (by rfl) (by decide) (by rfl) (by rfl) (by rfl) ?_)
      (repeat' (first | (k_unfold; (try dsimp only)) | (k_end; wrow_close) | ((with_reducible show wpAny _ _ (execs (_ :: _) _) _ _ (Shared.mk _ _ _ (_ + 1) _)); (with_reducible refine toks_cut ?_); intro _) | ((fail_if_success with_reducible (first | show wpAny _ _ (call (Value.ref _) _) _ _ _ | show wpAny _ _ (exec (Stmt.For _ _ _ _ _) _) _ _ _ | show wpAny _ _ (pyIter _) _ _ _ | show wpAny _ _ (exec (Stmt.Assign _ (Expr.ListComp _ _ _ _) _) _) _ _ _ | show wpAny _ _ (eval (Expr.ListComp _ _ _ _) _) _ _ _ | show LCg.CompSrc _ _ _ _ _ _ _ _ _ _ _ _ _ _ | show LCg.CompEnd _ _ _ _ _ _ _ _ _ _ _ _ _ _ | show LCt.CompSrcT _ _ _ _ _ _ _ _ _ _ _ _ _ _ _)); first | walk1 | (dsimp only; walk1)) | (leave1; try dsimp only) | fail))
      rename Fr _ _ _ _ => lF
      rename News _ _ _ _ => lN
      refine lw_ZE hA4 oq of ot o4 o5 o6 o7 lN ?_
      intro Z4 eZ lN hqZ hfZ hRZ
      have hwZ := hRZ _ hwm
      with_unfolding_all refine LCg.CompSrc.ledger (its := #[Value.ref ww0, Value.ref ww1, Value.ref ww2]) (k := kw) (by rfl) lF lN hwZ (by show 3 ≤ sizeLine; decide) ?_
      intro g4
      refine cr_inv (fun i ys nw' => ∃ tw, nw' = tw ++ Z4 ∧ Gat (LeP wW 9 3 0 cL [l0, l1, l2]) tw ys i ∧ Dj tw Z4) ⟨[], rfl, Gat.nil, fun _ _ _ h => nomatch h⟩ ?_ ?_
      · intro i v I oI C oC D m₂ ys nw' h tk E' hi hv hJ hC hx F1 N1 off ne
        refine gat_cut hJ ?_
        intro tw eg1 hG hdj
        subst eg1
        clear hJ
        have hwv := (lw_w3 hv hw0 hw1 hw2 hwd0 hwd1 hwd2).1
        have hdv := (lw_w3 hv hw0 hw1 hw2 hwd0 hwd1 hwd2).2
        try k_fold
        (repeat' (first | (k_unfold; (try dsimp only)) | (k_end; wrow_close) | ((with_reducible show wpAny _ _ (execs (_ :: _) _) _ _ (Shared.mk _ _ _ (_ + 1) _)); (with_reducible refine toks_cut ?_); intro _) | ((fail_if_success with_reducible (first | show wpAny _ _ (call (Value.ref _) _) _ _ _ | show wpAny _ _ (exec (Stmt.For _ _ _ _ _) _) _ _ _ | show wpAny _ _ (pyIter _) _ _ _ | show wpAny _ _ (exec (Stmt.Assign _ (Expr.ListComp _ _ _ _) _) _) _ _ _ | show wpAny _ _ (eval (Expr.ListComp _ _ _ _) _) _ _ _ | show LCg.CompSrc _ _ _ _ _ _ _ _ _ _ _ _ _ _ | show LCg.CompEnd _ _ _ _ _ _ _ _ _ _ _ _ _ _ | show LCt.CompSrcT _ _ _ _ _ _ _ _ _ _ _ _ _ _ _)); first | walk1 | (dsimp only; walk1)) | (leave1; try dsimp only) | fail))
        k_dflt (refine' ct_use (lead_ct _ _ _ _ _ _ _ _ (by decide +kernel) (by decide +kernel) hdv.1 hdv.2) ?kB ?kF ?kX ?kN ?kT ?kk ?kP ?kd ?ku ?_; (case kB => k_asm); (case kF => k_asm); (case kX => k_asm); (case kN => k_asm); (case kT => k_asm); (case kk => exact rfl); (case kP => exact hwv.mono (fun p hp => .tail _ (.tail _ (.tail _ (List.mem_append.mpr (.inr (hRZ p hp))))))); (case kd => (with_unfolding_all decide)); (case ku => (with_unfolding_all decide)))
        k_whole
        intro r2 tl2 h2 tk2 F2 N2 hne2 hP2
        try dsimp only
        try k_fold
        exact LCg.CompEnd.intro (by k_asm) (by k_asm) _ (fun p hp => lw_sub hp) (lw_off hne2 off) (Or.inr ⟨_, List.mem_append.mpr (.inr hwZ), rfl, _, rfl⟩) ⟨tl2 ++ tw, rfl, Gat.snoc (LeP.mono _ _ _ _ _ _) hG (LeP.of hP2 (pl_scan0 hdv)), lw_dj hne2 hdj⟩
      · intro ys nw' hJ
        refine gat_le hJ ?_
        intro tw lev0 lev1 lev2 eg1 eg2 hdj hle0 hle1 hle2
        subst eg1
        subst eg2
        clear hJ
        unfold LCg.FinA
        intro Dle h tk F1 N1 o1
        refine lw_compE eZ N1 o1 hdj hA4 ?_
        intro R5 lN hA5 hDle hs1 hsR5
        simp only [cells7] at lN
        replace hwm := hsR5 _ hwm
        replace hw0 := hw0.mono hsR5
        replace hw1 := hw1.mono hsR5
        replace hw2 := hw2.mono hsR5
        replace hle0 := Ws.mono hle0 hs1
        replace hle1 := Ws.mono hle1 hs1
        replace hle2 := Ws.mono hle2 hs1
        clear hs1 o1 N1 hdj hA4 hqZ hfZ hRZ hwZ eZ
        try k_fold
        (repeat' (first | (k_unfold; (try dsimp only)) | (k_end; wrow_close) | ((with_reducible show wpAny _ _ (execs (_ :: _) _) _ _ (Shared.mk _ _ _ (_ + 1) _)); (with_reducible refine toks_cut ?_); intro _) | ((fail_if_success with_reducible (first | show wpAny _ _ (call (Value.ref _) _) _ _ _ | show wpAny _ _ (exec (Stmt.For _ _ _ _ _) _) _ _ _ | show wpAny _ _ (pyIter _) _ _ _ | show wpAny _ _ (exec (Stmt.Assign _ (Expr.ListComp _ _ _ _) _) _) _ _ _ | show wpAny _ _ (eval (Expr.ListComp _ _ _ _) _) _ _ _ | show LCg.CompSrc _ _ _ _ _ _ _ _ _ _ _ _ _ _ | show LCg.CompEnd _ _ _ _ _ _ _ _ _ _ _ _ _ _ | show LCt.CompSrcT _ _ _ _ _ _ _ _ _ _ _ _ _ _ _)); first | walk1 | (dsimp only; walk1)) | (leave1; try dsimp only) | fail))
        k_dflt (refine LCg.Assign_ListComp_U (F₀ := by k_asm) (by rfl) (by with_unfolding_all rfl) (by rfl) (by decide) (by rfl) (by decide) (by rfl) (by rfl) (by rfl) ?_)
        (repeat' (first | (k_unfold; (try dsimp only)) | (k_end; wrow_close) | ((with_reducible show wpAny _ _ (execs (_ :: _) _) _ _ (Shared.mk _ _ _ (_ + 1) _)); (with_reducible refine toks_cut ?_); intro _) | ((fail_if_success with_reducible (first | show wpAny _ _ (call (Value.ref _) _) _ _ _ | show wpAny _ _ (exec (Stmt.For _ _ _ _ _) _) _ _ _ | show wpAny _ _ (pyIter _) _ _ _ | show wpAny _ _ (exec (Stmt.Assign _ (Expr.ListComp _ _ _ _) _) _) _ _ _ | show wpAny _ _ (eval (Expr.ListComp _ _ _ _) _) _ _ _ | show LCg.CompSrc _ _ _ _ _ _ _ _ _ _ _ _ _ _ | show LCg.CompEnd _ _ _ _ _ _ _ _ _ _ _ _ _ _ | show LCt.CompSrcT _ _ _ _ _ _ _ _ _ _ _ _ _ _ _)); first | walk1 | (dsimp only; walk1)) | (leave1; try dsimp only) | fail))
        rename Fr _ _ _ _ => lF
        rename News _ _ _ _ => lN
        refine lw_ZE hA5 oq of ot o4 o5 o6 o7 lN ?_
        intro Z5 eZ lN hqZ hfZ hRZ
        have hwZ := hRZ _ hwm
        with_unfolding_all refine LCg.CompSrc.ledger (its := #[Value.ref ww0, Value.ref ww1, Value.ref ww2]) (k := kw) (by rfl) lF lN hwZ (by show 3 ≤ sizeLine; decide) ?_
        intro g5
        refine cr_inv (fun i ys nw' => ∃ tw, nw' = tw ++ Z5 ∧ Gat (LeP wW 10 3 1 cL [l0, l1, l2]) tw ys i ∧ Dj tw Z5) ⟨[], rfl, Gat.nil, fun _ _ _ h => nomatch h⟩ ?_ ?_
        · intro i v I oI C oC D m₂ ys nw' h tk E' hi hv hJ hC hx F1 N1 off ne
          refine gat_cut hJ ?_
          intro tw eg1 hG hdj
          subst eg1
          clear hJ
          have hwv := (lw_w3 hv hw0 hw1 hw2 hwd0 hwd1 hwd2).1
          have hdv := (lw_w3 hv hw0 hw1 hw2 hwd0 hwd1 hwd2).2
          try k_fold
          (repeat' (first | (k_unfold; (try dsimp only)) | (k_end; wrow_close) | ((with_reducible show wpAny _ _ (execs (_ :: _) _) _ _ (Shared.mk _ _ _ (_ + 1) _)); (with_reducible refine toks_cut ?_); intro _) | ((fail_if_success with_reducible (first | show wpAny _ _ (call (Value.ref _) _) _ _ _ | show wpAny _ _ (exec (Stmt.For _ _ _ _ _) _) _ _ _ | show wpAny _ _ (pyIter _) _ _ _ | show wpAny _ _ (exec (Stmt.Assign _ (Expr.ListComp _ _ _ _) _) _) _ _ _ | show wpAny _ _ (eval (Expr.ListComp _ _ _ _) _) _ _ _ | show LCg.CompSrc _ _ _ _ _ _ _ _ _ _ _ _ _ _ | show LCg.CompEnd _ _ _ _ _ _ _ _ _ _ _ _ _ _ | show LCt.CompSrcT _ _ _ _ _ _ _ _ _ _ _ _ _ _ _)); first | walk1 | (dsimp only; walk1)) | (leave1; try dsimp only) | fail))
          k_dflt (refine' ct_use (lead_ct _ _ _ _ _ _ _ _ (by decide +kernel) (by decide +kernel) hdv.1 hdv.2) ?kB ?kF ?kX ?kN ?kT ?kk ?kP ?kd ?ku ?_; (case kB => k_asm); (case kF => k_asm); (case kX => k_asm); (case kN => k_asm); (case kT => k_asm); (case kk => exact rfl); (case kP => exact hwv.mono (fun p hp => .tail _ (.tail _ (.tail _ (List.mem_append.mpr (.inr (hRZ p hp))))))); (case kd => (with_unfolding_all decide)); (case ku => (with_unfolding_all decide)))
          k_whole
          intro r2 tl2 h2 tk2 F2 N2 hne2 hP2
          try dsimp only
          try k_fold
          exact LCg.CompEnd.intro (by k_asm) (by k_asm) _ (fun p hp => lw_sub hp) (lw_off hne2 off) (Or.inr ⟨_, List.mem_append.mpr (.inr hwZ), rfl, _, rfl⟩) ⟨tl2 ++ tw, rfl, Gat.snoc (LeP.mono _ _ _ _ _ _) hG (LeP.of hP2 (pl_scan1 hdv)), lw_dj hne2 hdj⟩
        · intro ys nw' hJ
          refine gat_le hJ ?_
          intro tw blv0 blv1 blv2 eg1 eg2 hdj hbl0 hbl1 hbl2
          subst eg1
          subst eg2
          clear hJ
          unfold LCg.FinA
          intro Dbl h tk F1 N1 o1
          refine lw_compE eZ N1 o1 hdj hA5 ?_
          intro R6 lN hA6 hDbl hs1 hsR6
          simp only [cells7] at lN
          replace hwm := hsR6 _ hwm
          replace hw0 := hw0.mono hsR6
          replace hw1 := hw1.mono hsR6
          replace hw2 := hw2.mono hsR6
          replace hbl0 := Ws.mono hbl0 hs1
          replace hbl1 := Ws.mono hbl1 hs1
          replace hbl2 := Ws.mono hbl2 hs1
          clear hs1 o1 N1 hdj hA5 hqZ hfZ hRZ hwZ eZ
          try k_fold
          (repeat' (first | (k_unfold; (try dsimp only)) | (k_end; wrow_close) | ((with_reducible show wpAny _ _ (execs (_ :: _) _) _ _ (Shared.mk _ _ _ (_ + 1) _)); (with_reducible refine toks_cut ?_); intro _) | ((fail_if_success with_reducible (first | show wpAny _ _ (call (Value.ref _) _) _ _ _ | show wpAny _ _ (exec (Stmt.For _ _ _ _ _) _) _ _ _ | show wpAny _ _ (pyIter _) _ _ _ | show wpAny _ _ (exec (Stmt.Assign _ (Expr.ListComp _ _ _ _) _) _) _ _ _ | show wpAny _ _ (eval (Expr.ListComp _ _ _ _) _) _ _ _ | show LCg.CompSrc _ _ _ _ _ _ _ _ _ _ _ _ _ _ | show LCg.CompEnd _ _ _ _ _ _ _ _ _ _ _ _ _ _ | show LCt.CompSrcT _ _ _ _ _ _ _ _ _ _ _ _ _ _ _)); first | walk1 | (dsimp only; walk1)) | (leave1; try dsimp only) | fail))
          k_dflt (refine LCg.Assign_ListComp_U (F₀ := by k_asm) (by rfl) (by with_unfolding_all rfl) (by rfl) (by decide) (by rfl) (by decide) (by rfl) (by rfl) (by rfl) ?_)
          (repeat' (first | (k_unfold; (try dsimp only)) | (k_end; wrow_close) | ((with_reducible show wpAny _ _ (execs (_ :: _) _) _ _ (Shared.mk _ _ _ (_ + 1) _)); (with_reducible refine toks_cut ?_); intro _) | ((fail_if_success with_reducible (first | show wpAny _ _ (call (Value.ref _) _) _ _ _ | show wpAny _ _ (exec (Stmt.For _ _ _ _ _) _) _ _ _ | show wpAny _ _ (pyIter _) _ _ _ | show wpAny _ _ (exec (Stmt.Assign _ (Expr.ListComp _ _ _ _) _) _) _ _ _ | show wpAny _ _ (eval (Expr.ListComp _ _ _ _) _) _ _ _ | show LCg.CompSrc _ _ _ _ _ _ _ _ _ _ _ _ _ _ | show LCg.CompEnd _ _ _ _ _ _ _ _ _ _ _ _ _ _ | show LCt.CompSrcT _ _ _ _ _ _ _ _ _ _ _ _ _ _ _)); first | walk1 | (dsimp only; walk1)) | (leave1; try dsimp only) | fail))
          rename Fr _ _ _ _ => lF
          rename News _ _ _ _ => lN
          refine lw_ZE hA6 oq of ot o4 o5 o6 o7 lN ?_
          intro Z6 eZ lN hqZ hfZ hRZ
          have hwZ := hRZ _ hwm
          with_unfolding_all refine LCg.CompSrc.ledger (its := #[Value.ref ww0, Value.ref ww1, Value.ref ww2]) (k := kw) (by rfl) lF lN hwZ (by show 3 ≤ sizeLine; decide) ?_
          intro g6
          refine cr_inv (fun i ys nw' => ∃ tw, nw' = tw ++ Z6 ∧ Gat (LeP wW 10 4 0 cTt [l0, l1, l2]) tw ys i ∧ Dj tw Z6) ⟨[], rfl, Gat.nil, fun _ _ _ h => nomatch h⟩ ?_ ?_
          · intro i v I oI C oC D m₂ ys nw' h tk E' hi hv hJ hC hx F1 N1 off ne
            refine gat_cut hJ ?_
            intro tw eg1 hG hdj
            subst eg1
            clear hJ
            have hwv := (lw_w3 hv hw0 hw1 hw2 hwd0 hwd1 hwd2).1
            have hdv := (lw_w3 hv hw0 hw1 hw2 hwd0 hwd1 hwd2).2
            try k_fold
            (repeat' (first | (k_unfold; (try dsimp only)) | (k_end; wrow_close) | ((with_reducible show wpAny _ _ (execs (_ :: _) _) _ _ (Shared.mk _ _ _ (_ + 1) _)); (with_reducible refine toks_cut ?_); intro _) | ((fail_if_success with_reducible (first | show wpAny _ _ (call (Value.ref _) _) _ _ _ | show wpAny _ _ (exec (Stmt.For _ _ _ _ _) _) _ _ _ | show wpAny _ _ (pyIter _) _ _ _ | show wpAny _ _ (exec (Stmt.Assign _ (Expr.ListComp _ _ _ _) _) _) _ _ _ | show wpAny _ _ (eval (Expr.ListComp _ _ _ _) _) _ _ _ | show LCg.CompSrc _ _ _ _ _ _ _ _ _ _ _ _ _ _ | show LCg.CompEnd _ _ _ _ _ _ _ _ _ _ _ _ _ _ | show LCt.CompSrcT _ _ _ _ _ _ _ _ _ _ _ _ _ _ _)); first | walk1 | (dsimp only; walk1)) | (leave1; try dsimp only) | fail))
            k_dflt (refine' ct_use (lead_ct _ _ _ _ _ _ _ _ (by decide +kernel) (by decide +kernel) hdv.1 hdv.2) ?kB ?kF ?kX ?kN ?kT ?kk ?kP ?kd ?ku ?_; (case kB => k_asm); (case kF => k_asm); (case kX => k_asm); (case kN => k_asm); (case kT => k_asm); (case kk => exact rfl); (case kP => exact hwv.mono (fun p hp => .tail _ (.tail _ (.tail _ (List.mem_append.mpr (.inr (hRZ p hp))))))); (case kd => (with_unfolding_all decide)); (case ku => (with_unfolding_all decide)))
            k_whole
            intro r2 tl2 h2 tk2 F2 N2 hne2 hP2
            try dsimp only
            try k_fold
            exact LCg.CompEnd.intro (by k_asm) (by k_asm) _ (fun p hp => lw_sub hp) (lw_off hne2 off) (Or.inr ⟨_, List.mem_append.mpr (.inr hwZ), rfl, _, rfl⟩) ⟨tl2 ++ tw, rfl, Gat.snoc (LeP.mono _ _ _ _ _ _) hG (LeP.of hP2 (pl_scan2 hdv)), lw_dj hne2 hdj⟩
          · intro ys nw' hJ
            refine gat_le hJ ?_
            intro tw tbv0 tbv1 tbv2 eg1 eg2 hdj htb0 htb1 htb2
            subst eg1
            subst eg2
            clear hJ
            unfold LCg.FinA
            intro Dtb h tk F1 N1 o1
            refine lw_compE eZ N1 o1 hdj hA6 ?_
            intro R7 lN hA7 hDtb hs1 hsR7
            simp only [cells7] at lN
            replace hwm := hsR7 _ hwm
            replace hw0 := hw0.mono hsR7
            replace hw1 := hw1.mono hsR7
            replace hw2 := hw2.mono hsR7
            replace htb0 := Ws.mono htb0 hs1
            replace htb1 := Ws.mono htb1 hs1
            replace htb2 := Ws.mono htb2 hs1
            clear hs1 o1 N1 hdj hA6 hqZ hfZ hRZ hwZ eZ
            try k_fold
            (repeat' (first | (k_unfold; (try dsimp only)) | (k_end; wrow_close) | ((with_reducible show wpAny _ _ (execs (_ :: _) _) _ _ (Shared.mk _ _ _ (_ + 1) _)); (with_reducible refine toks_cut ?_); intro _) | ((fail_if_success with_reducible (first | show wpAny _ _ (call (Value.ref _) _) _ _ _ | show wpAny _ _ (exec (Stmt.For _ _ _ _ _) _) _ _ _ | show wpAny _ _ (pyIter _) _ _ _ | show wpAny _ _ (exec (Stmt.Assign _ (Expr.ListComp _ _ _ _) _) _) _ _ _ | show wpAny _ _ (eval (Expr.ListComp _ _ _ _) _) _ _ _ | show LCg.CompSrc _ _ _ _ _ _ _ _ _ _ _ _ _ _ | show LCg.CompEnd _ _ _ _ _ _ _ _ _ _ _ _ _ _ | show LCt.CompSrcT _ _ _ _ _ _ _ _ _ _ _ _ _ _ _)); first | walk1 | (dsimp only; walk1)) | (leave1; try dsimp only) | fail))
            k_dflt (refine' ct_use (init_ct _ _ _ _ _ _ (by decide +kernel) (by decide +kernel)) ?kB ?kF ?kX ?kN ?kT ?kk ?kP ?kd ?ku ?_; (case kB => k_asm); (case kF => k_asm); (case kX => k_asm); (case kN => k_asm); (case kT => k_asm); (case kk => exact rfl); (case kP => exact trivial); (case kd => (with_unfolding_all decide)); (case ku => (with_unfolding_all decide)))
            k_whole
            intro bav tl3 h3 tk3 lF lN3 hne3 hP3
            have hba := init_of hP3 (show scan _ 0 0 0 [] = (3, 3, 0, [3]) by decide +kernel)
            clear lN hP3
            refine lw_callE lN3 hne3 hA7 ?_
            intro R8 lN hA8 hs1 hsR8
            simp only [cells7] at lN
            replace hba := Ws.mono hba hs1
            clear hs1 hne3 lN3 hA7
            try dsimp only
            try k_fold
            (repeat' (first | (k_unfold; (try dsimp only)) | (k_end; wrow_close) | ((with_reducible show wpAny _ _ (execs (_ :: _) _) _ _ (Shared.mk _ _ _ (_ + 1) _)); (with_reducible refine toks_cut ?_); intro _) | ((fail_if_success with_reducible (first | show wpAny _ _ (call (Value.ref _) _) _ _ _ | show wpAny _ _ (exec (Stmt.For _ _ _ _ _) _) _ _ _ | show wpAny _ _ (pyIter _) _ _ _ | show wpAny _ _ (exec (Stmt.Assign _ (Expr.ListComp _ _ _ _) _) _) _ _ _ | show wpAny _ _ (eval (Expr.ListComp _ _ _ _) _) _ _ _ | show LCg.CompSrc _ _ _ _ _ _ _ _ _ _ _ _ _ _ | show LCg.CompEnd _ _ _ _ _ _ _ _ _ _ _ _ _ _ | show LCt.CompSrcT _ _ _ _ _ _ _ _ _ _ _ _ _ _ _)); first | walk1 | (dsimp only; walk1)) | (leave1; try dsimp only) | fail))
            k_dflt (refine' ct_use (init_ct _ _ _ _ _ _ (by decide +kernel) (by decide +kernel)) ?kB ?kF ?kX ?kN ?kT ?kk ?kP ?kd ?ku ?_; (case kB => k_asm); (case kF => k_asm); (case kX => k_asm); (case kN => k_asm); (case kT => k_asm); (case kk => exact rfl); (case kP => exact trivial); (case kd => (with_unfolding_all decide)); (case ku => (with_unfolding_all decide)))
            k_whole
            intro sev tl3 h3 tk3 lF lN3 hne3 hP3
            have hse := init_of hP3 (show scan _ 0 0 0 [] = (7, 7, 0, [7]) by decide +kernel)
            clear hP3
            refine lw_callE lN3 hne3 hA8 ?_
            intro R9 lN hA9 hs1 hsR9
            simp only [cells7] at lN
            replace hse := Ws.mono hse hs1
            clear hs1 hne3 lN3 hA8
            try dsimp only
            try k_fold
            have hc8 := hsR9
            have hc7 : ∀ p ∈ R7, p ∈ R9 := fun p h => hc8 p (hsR8 p h)
            have hc6 : ∀ p ∈ R6, p ∈ R9 := fun p h => hc7 p (hsR7 p h)
            have hc5 : ∀ p ∈ R5, p ∈ R9 := fun p h => hc6 p (hsR6 p h)
            have hc4 : ∀ p ∈ R4, p ∈ R9 := fun p h => hc5 p (hsR5 p h)
            have hc3 : ∀ p ∈ R3, p ∈ R9 := fun p h => hc4 p (hsR4 p h)
            replace hwm := hc7 _ hwm
            replace hw0 := hw0.mono hc7
            replace hw1 := hw1.mono hc7
            replace hw2 := hw2.mono hc7
            replace hDm := hc3 _ hDm
            replace hta0 := hc4 _ hta0
            replace hta1 := hc4 _ hta1
            replace hta2 := hc4 _ hta2
            replace htm := hc4 _ htm
            replace hDle := hc5 _ hDle
            replace hle0 := Ws.mono hle0 hc5
            replace hle1 := Ws.mono hle1 hc5
            replace hle2 := Ws.mono hle2 hc5
            replace hDbl := hc6 _ hDbl
            replace hbl0 := Ws.mono hbl0 hc6
            replace hbl1 := Ws.mono hbl1 hc6
            replace hbl2 := Ws.mono hbl2 hc6
            replace hDtb := hc7 _ hDtb
            replace htb0 := Ws.mono htb0 hc7
            replace htb1 := Ws.mono htb1 hc7
            replace htb2 := Ws.mono htb2 hc7
            replace hba := Ws.mono hba hc8
            clear hc8 hc7 hc6 hc5 hc4 hc3 hsR9 hsR8 hsR7 hsR6 hsR5 hsR4 hsR3 hsR2
            rename Shared => s₁
            rename_i v1z1 v1z2 v1z3 _ _ v1z4 v1z5 v1z6 v1z7 _ _ _ _ _ _ _ _ _ _ v1z8 v1z9 _ v1z10 v1z11 _ v1z12 v1z13 v1z14 v1z15 v1z16 v1z17 _ v1z18 _ _ v1z19 v1z20 v1z21 _ _ _ _ _ v1z22 v1z23 v1z24 v1z25 v1z26 v1z27 v1z28 v1z29 v1z30 v1z31 _ v1z32 v1z33 v1z34 v1z35 v1z36 v1z37 v1z38 v1z39 v1z40 v1z41 v1z42 v1z43 v1z44 v1z45 v1z46 v1z47 v1z48 v1z49 v1z50 v1z51 v1z52 v1z53 v1z54 _ _ v1z55 v1z56 v1z57 v1z58 v1z59 v1z60 v1z61 v1z62
            revert wW v1z1 s₁ v1z2 v1z3 v1z4 v1z5 v1z6 v1z7 v1z8 v1z9 v1z10 v1z11 v1z12 v1z13 v1z14 v1z15 v1z16 v1z17 v1z18 v1z19 v1z20 v1z21 sa svs sns v1z22 v1z23 v1z24 v1z25 v1z26 v1z27 v1z28 v1z29 oq q tq o2 o3 o4 o5 o6 o7 h1 v1z30 wa ww0 ww1 ww2 kw xs R1 l0 l1 l2 v1z31 v1z32 Z g1 v1z33 t0 t1 t2 D v1z34 v1z35 R2 v1z36 v1z37 v1z38 fa fvs fk R3 v1z39 v1z40 of Z3 g3 v1z41 ta0 ta1 ta2 tv0 tv1 tv2 tk0 tk1 tk2 Dt v1z42 v1z43 R4 v1z44 ot Z4 g4 v1z45 lev0 lev1 lev2 Dle v1z46 v1z47 R5 Z5 g5 v1z48 blv0 blv1 blv2 Dbl v1z49 v1z50 R6 Z6 g6 tw tbv0 tbv1 tbv2 Dtb h tk R7 bav v1z51 v1z52 v1z53 R8 v1z54 v1z55 v1z56 v1z57 v1z58 v1z59 v1z60 v1z61 v1z62 sev tl3 h3 tk3 R9
            exact hP1.out)⟩
theorem top_off_T1 : True := by
  w_top off
  trivial
structure LoSt where
  om : Obj
  ot : Obj
  od : Obj
  oa : Obj
theorem get3 {P : Nat → Value → Prop} {y0 y1 y2 : Value} {i : Nat} (hi : i < 3) (p0 : P 0 y0) (p1 : P 1 y1) (p2 : P 2 y2) : ∃ v, [y0, y1, y2][i]? = some v ∧ P i v := by
  match i, hi with
  | 0, _ => exact ⟨y0, rfl, p0⟩
  | 1, _ => exact ⟨y1, rfl, p1⟩
  | 2, _ => exact ⟨y2, rfl, p2⟩
noncomputable def st2 : { P : Prop // Saved P → st1.1 } := ⟨_, fun hP3 => by
  set_option tactic.hygienic false in intro
  k_fill
  set_option tactic.hygienic false in intros
  with_unfolding_all replace lF : Fr _ _ _ (kstB (fun _ => none) [(Str.ofString "bare", bav), (Str.ofString "tabs", .ref Dtb), (Str.ofString "blanks", .ref Dbl), (Str.ofString "leads", .ref Dle), (Str.ofString "worths", .ref D), (Str.ofString "words", .ref wa), (Str.ofString "script", .ref sa)]) := lF
  replace hti0 : IntsAre tv0 (cols l0) := (pl_cols hq1 hq2 hwd0) ▸ (show IntsAre tv0 (colR q (wo q l0) 7).2 from hti0)
  replace hti1 : IntsAre tv1 (cols l1) := (pl_cols hq1 hq2 hwd1) ▸ (show IntsAre tv1 (colR q (wo q l1) 7).2 from hti1)
  replace hti2 : IntsAre tv2 (cols l2) := (pl_cols hq1 hq2 hwd2) ▸ (show IntsAre tv2 (colR q (wo q l2) 7).2 from hti2)
  (repeat' (first | (k_unfold; (try dsimp only)) | (k_end; wrow_close) | ((with_reducible show wpAny _ _ (execs (_ :: _) _) _ _ (Shared.mk _ _ _ (_ + 1) _)); (with_reducible refine toks_cut ?_); intro _) | ((first | ((with_reducible show wpAny _ _ (subscriptTail _ _ (Value.ref _) _) _ _ _); (first | ((k_here; (with_reducible show wpAny _ _ (subscriptTail _ _ (Value.ref _) (Value.int _ _)) _ _ _); k_dflt (refine' item_refM ?hqk1 ?hqk2 ?hqk4 ?hqk5 ?hqk6 ?_; (case hqk1 => k_asm); (case hqk2 => k_mem); (case hqk4 | hqk5 => omega); (case hqk6 => first | assumption | exact rfl)); k_whole)) | ((k_here; (with_reducible show wpAny _ _ (subscriptTail _ _ (Value.ref _) (Value.int _ _)) _ _ _); k_dflt (refine' item_listM ?hqk1 ?hqk2 ?hqk3 ?hqk4 ?hqk5 ?hqk6 ?_; (case hqk1 => k_asm); (case hqk2 => k_mem); (case hqk3 => assumption); (case hqk4 | hqk5 | hqk6 => omega)); k_whole; intro _)) | ((k_here; (with_reducible show wpAny _ _ (subscriptTail _ _ (Value.ref _) (Value.int _ _)) _ _ _); k_dflt (refine' item_tupM ?hqk1 ?hqk2 ?hqk3 ?hqk4 ?hqk5 ?hqk6 ?_; (case hqk1 => k_asm); (case hqk2 => k_mem); (case hqk3 => assumption); (case hqk4 | hqk5 | hqk6 => omega)); k_whole; intro _)))) | ((with_reducible show wpAny _ _ (call (Value.builtin _) _) _ _ _); (first | ((k_here; (with_reducible show wpAny _ _ (call (Value.builtin "len") [Value.ref _]) _ _ _); k_dflt (refine' len_tupM ?hqk1 ?hqk2 ?hqk3 ?hqk4 ?_; (case hqk1 => k_asm); (case hqk2 => k_mem); (case hqk3 => first | exact IntsAre.length (by assumption) | assumption); (case hqk4 => omega)); k_whole)) | ((k_here; (with_reducible show wpAny _ _ (call (Value.builtin "len") [Value.ref _]) _ _ _); k_dflt (refine' len_listM ?hqk1 ?hqk2 ?hqk3 ?hqk4 ?_; (case hqk1 => k_asm); (case hqk2 => k_mem); (case hqk3 => first | exact IntsAre.length (by assumption) | assumption); (case hqk4 => omega)); k_whole)))))) | ((fail_if_success with_reducible (first | show wpAny _ _ (call (Value.ref _) _) _ _ _ | show wpAny _ _ (compareOp CmpOp.In _ _) _ _ _ | show wpAny _ _ (compareOp CmpOp.NotEq (Value.ref _) _) _ _ _ | show wpAny _ _ (call (Value.builtin "max") [Value.ref _]) _ _ _ | show wpAny _ _ (exec (Stmt.For _ _ _ _ _) _) _ _ _ | show wpAny _ _ (pyIter _) _ _ _ | show wpAny _ _ (exec (Stmt.Assign _ (Expr.ListComp _ _ _ _) _) _) _ _ _ | show wpAny _ _ (eval (Expr.ListComp _ _ _ _) _) _ _ _ | show LCg.CompSrc _ _ _ _ _ _ _ _ _ _ _ _ _ _ | show LCg.CompEnd _ _ _ _ _ _ _ _ _ _ _ _ _ _ | show LCt.CompSrcT _ _ _ _ _ _ _ _ _ _ _ _ _ _ _)); first | walk1 | (dsimp only; walk1)) | (leave1; try dsimp only) | fail))
  rename News _ _ _ _ => lN
  k_dflt (refine' lw_in lN (by k_mem) (by k_mem) (by k_mem) (by k_mem) (by k_mem) hti0 hti1 hti2 (cols_ne _) (cols_ne _) (cols_ne _) (by ke_room) ?_)
  k_whole
  try dsimp only
  try k_fold
  (repeat' (first | (k_unfold; (try dsimp only)) | (k_end; wrow_close) | ((with_reducible show wpAny _ _ (execs (_ :: _) _) _ _ (Shared.mk _ _ _ (_ + 1) _)); (with_reducible refine toks_cut ?_); intro _) | ((first | ((with_reducible show wpAny _ _ (subscriptTail _ _ (Value.ref _) _) _ _ _); (first | ((k_here; (with_reducible show wpAny _ _ (subscriptTail _ _ (Value.ref _) (Value.int _ _)) _ _ _); k_dflt (refine' item_refM ?hqk1 ?hqk2 ?hqk4 ?hqk5 ?hqk6 ?_; (case hqk1 => k_asm); (case hqk2 => k_mem); (case hqk4 | hqk5 => omega); (case hqk6 => first | assumption | exact rfl)); k_whole)) | ((k_here; (with_reducible show wpAny _ _ (subscriptTail _ _ (Value.ref _) (Value.int _ _)) _ _ _); k_dflt (refine' item_listM ?hqk1 ?hqk2 ?hqk3 ?hqk4 ?hqk5 ?hqk6 ?_; (case hqk1 => k_asm); (case hqk2 => k_mem); (case hqk3 => assumption); (case hqk4 | hqk5 | hqk6 => omega)); k_whole; intro _)) | ((k_here; (with_reducible show wpAny _ _ (subscriptTail _ _ (Value.ref _) (Value.int _ _)) _ _ _); k_dflt (refine' item_tupM ?hqk1 ?hqk2 ?hqk3 ?hqk4 ?hqk5 ?hqk6 ?_; (case hqk1 => k_asm); (case hqk2 => k_mem); (case hqk3 => assumption); (case hqk4 | hqk5 | hqk6 => omega)); k_whole; intro _)))) | ((with_reducible show wpAny _ _ (call (Value.builtin _) _) _ _ _); (first | ((k_here; (with_reducible show wpAny _ _ (call (Value.builtin "len") [Value.ref _]) _ _ _); k_dflt (refine' len_tupM ?hqk1 ?hqk2 ?hqk3 ?hqk4 ?_; (case hqk1 => k_asm); (case hqk2 => k_mem); (case hqk3 => first | exact IntsAre.length (by assumption) | assumption); (case hqk4 => omega)); k_whole)) | ((k_here; (with_reducible show wpAny _ _ (call (Value.builtin "len") [Value.ref _]) _ _ _); k_dflt (refine' len_listM ?hqk1 ?hqk2 ?hqk3 ?hqk4 ?_; (case hqk1 => k_asm); (case hqk2 => k_mem); (case hqk3 => first | exact IntsAre.length (by assumption) | assumption); (case hqk4 => omega)); k_whole)))))) | ((fail_if_success with_reducible (first | show wpAny _ _ (call (Value.ref _) _) _ _ _ | show wpAny _ _ (compareOp CmpOp.In _ _) _ _ _ | show wpAny _ _ (compareOp CmpOp.NotEq (Value.ref _) _) _ _ _ | show wpAny _ _ (call (Value.builtin "max") [Value.ref _]) _ _ _ | show wpAny _ _ (exec (Stmt.For _ _ _ _ _) _) _ _ _ | show wpAny _ _ (pyIter _) _ _ _ | show wpAny _ _ (exec (Stmt.Assign _ (Expr.ListComp _ _ _ _) _) _) _ _ _ | show wpAny _ _ (eval (Expr.ListComp _ _ _ _) _) _ _ _ | show LCg.CompSrc _ _ _ _ _ _ _ _ _ _ _ _ _ _ | show LCg.CompEnd _ _ _ _ _ _ _ _ _ _ _ _ _ _ | show LCt.CompSrcT _ _ _ _ _ _ _ _ _ _ _ _ _ _ _)); first | walk1 | (dsimp only; walk1)) | (leave1; try dsimp only) | fail))
  rename Fr _ _ _ _ => lF
  with_unfolding_all refine' For_turns lF ?_
  (repeat' (first | (k_unfold; (try dsimp only)) | (k_end; wrow_close) | ((with_reducible show wpAny _ _ (execs (_ :: _) _) _ _ (Shared.mk _ _ _ (_ + 1) _)); (with_reducible refine toks_cut ?_); intro _) | ((first | ((with_reducible show wpAny _ _ (subscriptTail _ _ (Value.ref _) _) _ _ _); (first | ((k_here; (with_reducible show wpAny _ _ (subscriptTail _ _ (Value.ref _) (Value.int _ _)) _ _ _); k_dflt (refine' item_refM ?hqk1 ?hqk2 ?hqk4 ?hqk5 ?hqk6 ?_; (case hqk1 => k_asm); (case hqk2 => k_mem); (case hqk4 | hqk5 => omega); (case hqk6 => first | assumption | exact rfl)); k_whole)) | ((k_here; (with_reducible show wpAny _ _ (subscriptTail _ _ (Value.ref _) (Value.int _ _)) _ _ _); k_dflt (refine' item_listM ?hqk1 ?hqk2 ?hqk3 ?hqk4 ?hqk5 ?hqk6 ?_; (case hqk1 => k_asm); (case hqk2 => k_mem); (case hqk3 => assumption); (case hqk4 | hqk5 | hqk6 => omega)); k_whole; intro _)) | ((k_here; (with_reducible show wpAny _ _ (subscriptTail _ _ (Value.ref _) (Value.int _ _)) _ _ _); k_dflt (refine' item_tupM ?hqk1 ?hqk2 ?hqk3 ?hqk4 ?hqk5 ?hqk6 ?_; (case hqk1 => k_asm); (case hqk2 => k_mem); (case hqk3 => assumption); (case hqk4 | hqk5 | hqk6 => omega)); k_whole; intro _)))) | ((with_reducible show wpAny _ _ (call (Value.builtin _) _) _ _ _); (first | ((k_here; (with_reducible show wpAny _ _ (call (Value.builtin "len") [Value.ref _]) _ _ _); k_dflt (refine' len_tupM ?hqk1 ?hqk2 ?hqk3 ?hqk4 ?_; (case hqk1 => k_asm); (case hqk2 => k_mem); (case hqk3 => first | exact IntsAre.length (by assumption) | assumption); (case hqk4 => omega)); k_whole)) | ((k_here; (with_reducible show wpAny _ _ (call (Value.builtin "len") [Value.ref _]) _ _ _); k_dflt (refine' len_listM ?hqk1 ?hqk2 ?hqk3 ?hqk4 ?_; (case hqk1 => k_asm); (case hqk2 => k_mem); (case hqk3 => first | exact IntsAre.length (by assumption) | assumption); (case hqk4 => omega)); k_whole)))))) | ((fail_if_success with_reducible (first | show wpAny _ _ (call (Value.ref _) _) _ _ _ | show wpAny _ _ (compareOp CmpOp.In _ _) _ _ _ | show wpAny _ _ (compareOp CmpOp.NotEq (Value.ref _) _) _ _ _ | show wpAny _ _ (call (Value.builtin "max") [Value.ref _]) _ _ _ | show wpAny _ _ (exec (Stmt.For _ _ _ _ _) _) _ _ _ | show wpAny _ _ (pyIter _) _ _ _ | show wpAny _ _ (exec (Stmt.Assign _ (Expr.ListComp _ _ _ _) _) _) _ _ _ | show wpAny _ _ (eval (Expr.ListComp _ _ _ _) _) _ _ _ | show LCg.CompSrc _ _ _ _ _ _ _ _ _ _ _ _ _ _ | show LCg.CompEnd _ _ _ _ _ _ _ _ _ _ _ _ _ _ | show LCt.CompSrcT _ _ _ _ _ _ _ _ _ _ _ _ _ _ _)); first | walk1 | (dsimp only; walk1)) | (leave1; try dsimp only) | fail))
  rename Fr _ _ _ _ => lF
  rename News _ _ _ _ => lN
  rename IsRange _ _ _ _ _ _ _ _ => hR
  replace lN : News _ _ _ ((s₁.heap.objs.size + 1 + 1 + 1 + 1 + 1 + 1 + 1, o7) :: (s₁.heap.objs.size + 1 + 1 + 1 + 1 + 1 + 1, o6) :: (s₁.heap.objs.size + 1 + 1 + 1 + 1 + 1, o5) :: (s₁.heap.objs.size + 1 + 1 + 1 + 1, o4) :: (s₁.heap.objs.size + 1 + 1 + 1, ot) :: (s₁.heap.objs.size + 1 + 1, of) :: (s₁.heap.objs.size + 1, oq) :: R9) := kst_newsOf lN (fun p hp => List.mem_cons_of_mem _ hp)
  with_unfolding_all refine lt_range (σ := LoSt) (fun c => (s₁.heap.objs.size + 1 + 1 + 1 + 1 + 1 + 1 + 1, c.oa) :: (s₁.heap.objs.size + 1 + 1 + 1 + 1 + 1 + 1, c.od) :: (s₁.heap.objs.size + 1 + 1 + 1 + 1 + 1, c.ot) :: (s₁.heap.objs.size + 1 + 1 + 1 + 1, c.om) :: (s₁.heap.objs.size + 1 + 1 + 1, ot) :: (s₁.heap.objs.size + 1 + 1, of) :: (s₁.heap.objs.size + 1, oq) :: R9) (fun _ => [(Str.ofString "seven", sev), (Str.ofString "bare", bav), (Str.ofString "tabs", .ref Dtb), (Str.ofString "blanks", .ref Dbl), (Str.ofString "leads", .ref Dle), (Str.ofString "worths", .ref D), (Str.ofString "words", .ref wa)]) [Str.ofString "rest", Str.ofString "n", Str.ofString "high", Str.ofString "pairs"] (fun _ c => (∃ v, c.om.data = .cell v) ∧ (∃ v, c.ot.data = .cell v) ∧ (∃ v, c.od.data = .cell v) ∧ (∃ v, c.oa.data = .cell v)) ⟨o4, o5, o6, o7⟩ (by exact rfl) hR (small_of (by decide) (by decide) (by decide) (by decide)) (rangeSize_nat 0 3) lF lN (List.forall_mem_cons.mpr ⟨by with_unfolding_all rfl, List.forall_mem_cons.mpr ⟨by with_unfolding_all rfl, List.forall_mem_cons.mpr ⟨by with_unfolding_all rfl, List.forall_mem_cons.mpr ⟨by with_unfolding_all rfl, List.forall_mem_cons.mpr ⟨by with_unfolding_all rfl, List.forall_mem_cons.mpr ⟨by with_unfolding_all rfl, List.forall_mem_cons.mpr ⟨by with_unfolding_all rfl, List.forall_mem_nil _⟩⟩⟩⟩⟩⟩⟩) ⟨⟨_, c4'⟩, ⟨_, c5'⟩, ⟨_, c6'⟩, ⟨_, c7'⟩⟩ ?_ ?_
  · intro c i t' u h' tk' own hi hoff hP' F' N'
    replace hi : i < 3 := hi
    obtain ⟨⟨vm, dm⟩, ⟨vt, dt⟩, ⟨vd, dd⟩, ⟨va, da⟩⟩ := hP'
    simp only [List.cons_append] at N'
    have hn4 : ∀ p ∈ R9 ++ own, p.1 ≠ s₁.heap.objs.size + 1 + 1 + 1 + 1 := fun p hp => (List.mem_append.mp hp).elim (fun h => (hA9 p h).2.2.2.1) (fun h => hoff p h _ (by simp))
    have hn5 : ∀ p ∈ R9 ++ own, p.1 ≠ s₁.heap.objs.size + 1 + 1 + 1 + 1 + 1 := fun p hp => (List.mem_append.mp hp).elim (fun h => (hA9 p h).2.2.2.2.1) (fun h => hoff p h _ (by simp))
    have hn6 : ∀ p ∈ R9 ++ own, p.1 ≠ s₁.heap.objs.size + 1 + 1 + 1 + 1 + 1 + 1 := fun p hp => (List.mem_append.mp hp).elim (fun h => (hA9 p h).2.2.2.2.2.1) (fun h => hoff p h _ (by simp))
    have hn7 : ∀ p ∈ R9 ++ own, p.1 ≠ s₁.heap.objs.size + 1 + 1 + 1 + 1 + 1 + 1 + 1 := fun p hp => (List.mem_append.mp hp).elim (fun h => (hA9 p h).2.2.2.2.2.2) (fun h => hoff p h _ (by simp))
    refine get3E (P := fun k v => IsWord R9 v ([l0, l1, l2].getD k [])) hi hw0 hw1 hw2 ?_
    intro wv hwv hwi
    refine get3E (P := fun k v => Ws wW R9 v 9 3 0 (cL ([l0, l1, l2].getD k []))) hi hle0 hle1 hle2 ?_
    intro lv hlv hli
    refine get3E (P := fun k v => Ws wW R9 v 10 3 1 (cL ([l0, l1, l2].getD k []))) hi hbl0 hbl1 hbl2 ?_
    intro bv hbv hbi
    have hdi := lw_d3 hi hwd0 hwd1 hwd2
    replace hwv : [Value.ref ww0, .ref ww1, .ref ww2][(0 + (i : Int)).toNat]? = some wv := by rw [show (0 + (i : Int)).toNat = i by omega]; exact hwv
    replace hlv : [lev0, lev1, lev2][(0 + (i : Int)).toNat]? = some lv := by rw [show (0 + (i : Int)).toNat = i by omega]; exact hlv
    replace hbv : [blv0, blv1, blv2][(0 + (i : Int)).toNat]? = some bv := by rw [show (0 + (i : Int)).toNat = i by omega]; exact hbv
    try k_fold
    (repeat' (first | (k_unfold; (try dsimp only)) | (k_end; wrow_close) | ((with_reducible show wpAny _ _ (execs (_ :: _) _) _ _ (Shared.mk _ _ _ (_ + 1) _)); (with_reducible refine toks_cut ?_); intro _) | ((first | ((with_reducible show wpAny _ _ (subscriptTail _ _ (Value.ref _) _) _ _ _); (first | ((k_here; (with_reducible show wpAny _ _ (subscriptTail _ _ (Value.ref _) (Value.int _ _)) _ _ _); k_dflt (refine' item_refM ?hqk1 ?hqk2 ?hqk4 ?hqk5 ?hqk6 ?_; (case hqk1 => k_asm); (case hqk2 => k_mem); (case hqk4 | hqk5 => omega); (case hqk6 => first | assumption | exact rfl)); k_whole)) | ((k_here; (with_reducible show wpAny _ _ (subscriptTail _ _ (Value.ref _) (Value.int _ _)) _ _ _); k_dflt (refine' item_listM ?hqk1 ?hqk2 ?hqk3 ?hqk4 ?hqk5 ?hqk6 ?_; (case hqk1 => k_asm); (case hqk2 => k_mem); (case hqk3 => assumption); (case hqk4 | hqk5 | hqk6 => omega)); k_whole; intro _)) | ((k_here; (with_reducible show wpAny _ _ (subscriptTail _ _ (Value.ref _) (Value.int _ _)) _ _ _); k_dflt (refine' item_tupM ?hqk1 ?hqk2 ?hqk3 ?hqk4 ?hqk5 ?hqk6 ?_; (case hqk1 => k_asm); (case hqk2 => k_mem); (case hqk3 => assumption); (case hqk4 | hqk5 | hqk6 => omega)); k_whole; intro _)))) | ((with_reducible show wpAny _ _ (call (Value.builtin _) _) _ _ _); (first | ((k_here; (with_reducible show wpAny _ _ (call (Value.builtin "len") [Value.ref _]) _ _ _); k_dflt (refine' len_tupM ?hqk1 ?hqk2 ?hqk3 ?hqk4 ?_; (case hqk1 => k_asm); (case hqk2 => k_mem); (case hqk3 => first | exact IntsAre.length (by assumption) | assumption); (case hqk4 => omega)); k_whole)) | ((k_here; (with_reducible show wpAny _ _ (call (Value.builtin "len") [Value.ref _]) _ _ _); k_dflt (refine' len_listM ?hqk1 ?hqk2 ?hqk3 ?hqk4 ?_; (case hqk1 => k_asm); (case hqk2 => k_mem); (case hqk3 => first | exact IntsAre.length (by assumption) | assumption); (case hqk4 => omega)); k_whole)))))) | ((fail_if_success with_reducible (first | show wpAny _ _ (call (Value.ref _) _) _ _ _ | show wpAny _ _ (compareOp CmpOp.In _ _) _ _ _ | show wpAny _ _ (compareOp CmpOp.NotEq (Value.ref _) _) _ _ _ | show wpAny _ _ (call (Value.builtin "max") [Value.ref _]) _ _ _ | show wpAny _ _ (exec (Stmt.For _ _ _ _ _) _) _ _ _ | show wpAny _ _ (pyIter _) _ _ _ | show wpAny _ _ (exec (Stmt.Assign _ (Expr.ListComp _ _ _ _) _) _) _ _ _ | show wpAny _ _ (eval (Expr.ListComp _ _ _ _) _) _ _ _ | show LCg.CompSrc _ _ _ _ _ _ _ _ _ _ _ _ _ _ | show LCg.CompEnd _ _ _ _ _ _ _ _ _ _ _ _ _ _ | show LCt.CompSrcT _ _ _ _ _ _ _ _ _ _ _ _ _ _ _)); first | walk1 | (dsimp only; walk1)) | (leave1; try dsimp only) | fail))
    rename_i v3z1 v3z2 v3z3 v3z4 v3z5 _ v3z6 v3z7 v3z8 v3z9 v3z10 _ v3z11 v3z12 _ _ _
    revert wW v1z1 s₁ v1z2 v1z3 v1z4 v1z5 v1z6 v1z7 v1z8 v1z9 v1z10 v1z11 v1z12 v1z13 v1z14 v1z15 v1z16 v1z17 v1z18 v1z19 v1z20 v1z21 sa svs sns v1z22 v1z23 v1z24 v1z25 v1z26 v1z27 v1z28 v1z29 oq q tq o2 o3 o4 o5 o6 o7 h1 v1z30 wa ww0 ww1 ww2 kw xs R1 l0 l1 l2 v1z31 v1z32 Z g1 v1z33 t0 t1 t2 D v1z34 v1z35 R2 v1z36 v1z37 v1z38 fa fvs fk R3 v1z39 v1z40 of Z3 g3 v1z41 ta0 ta1 ta2 tv0 tv1 tv2 tk0 tk1 tk2 Dt v1z42 v1z43 R4 v1z44 ot Z4 g4 v1z45 lev0 lev1 lev2 Dle v1z46 v1z47 R5 Z5 g5 v1z48 blv0 blv1 blv2 Dbl v1z49 v1z50 R6 Z6 g6 tw tbv0 tbv1 tbv2 Dtb h v3z1 R7 bav v1z51 v1z52 v1z53 R8 v1z54 v1z55 v1z56 v1z57 v1z58 v1z59 v1z60 v1z61 v1z62 sev tl3 h3 tk3 R9 v3z2 v3z3 v3z4 v3z5 v3z6 v3z7 v3z8 v3z9 v3z10 c i t' u h' tk' own vm vt vd va wv lv bv v3z11 v3z12 tk
    exact hP3.out
  · intro c u h' tk' hP' F' N'
    try k_fold
    (repeat' (first | (k_unfold; (try dsimp only)) | (k_end; wrow_close) | ((with_reducible show wpAny _ _ (execs (_ :: _) _) _ _ (Shared.mk _ _ _ (_ + 1) _)); (with_reducible refine toks_cut ?_); intro _) | ((first | ((with_reducible show wpAny _ _ (subscriptTail _ _ (Value.ref _) _) _ _ _); (first | ((k_here; (with_reducible show wpAny _ _ (subscriptTail _ _ (Value.ref _) (Value.int _ _)) _ _ _); k_dflt (refine' item_refM ?hqk1 ?hqk2 ?hqk4 ?hqk5 ?hqk6 ?_; (case hqk1 => k_asm); (case hqk2 => k_mem); (case hqk4 | hqk5 => omega); (case hqk6 => first | assumption | exact rfl)); k_whole)) | ((k_here; (with_reducible show wpAny _ _ (subscriptTail _ _ (Value.ref _) (Value.int _ _)) _ _ _); k_dflt (refine' item_listM ?hqk1 ?hqk2 ?hqk3 ?hqk4 ?hqk5 ?hqk6 ?_; (case hqk1 => k_asm); (case hqk2 => k_mem); (case hqk3 => assumption); (case hqk4 | hqk5 | hqk6 => omega)); k_whole; intro _)) | ((k_here; (with_reducible show wpAny _ _ (subscriptTail _ _ (Value.ref _) (Value.int _ _)) _ _ _); k_dflt (refine' item_tupM ?hqk1 ?hqk2 ?hqk3 ?hqk4 ?hqk5 ?hqk6 ?_; (case hqk1 => k_asm); (case hqk2 => k_mem); (case hqk3 => assumption); (case hqk4 | hqk5 | hqk6 => omega)); k_whole; intro _)))) | ((with_reducible show wpAny _ _ (call (Value.builtin _) _) _ _ _); (first | ((k_here; (with_reducible show wpAny _ _ (call (Value.builtin "len") [Value.ref _]) _ _ _); k_dflt (refine' len_tupM ?hqk1 ?hqk2 ?hqk3 ?hqk4 ?_; (case hqk1 => k_asm); (case hqk2 => k_mem); (case hqk3 => first | exact IntsAre.length (by assumption) | assumption); (case hqk4 => omega)); k_whole)) | ((k_here; (with_reducible show wpAny _ _ (call (Value.builtin "len") [Value.ref _]) _ _ _); k_dflt (refine' len_listM ?hqk1 ?hqk2 ?hqk3 ?hqk4 ?_; (case hqk1 => k_asm); (case hqk2 => k_mem); (case hqk3 => first | exact IntsAre.length (by assumption) | assumption); (case hqk4 => omega)); k_whole)))))) | ((fail_if_success with_reducible (first | show wpAny _ _ (call (Value.ref _) _) _ _ _ | show wpAny _ _ (compareOp CmpOp.In _ _) _ _ _ | show wpAny _ _ (compareOp CmpOp.NotEq (Value.ref _) _) _ _ _ | show wpAny _ _ (call (Value.builtin "max") [Value.ref _]) _ _ _ | show wpAny _ _ (exec (Stmt.For _ _ _ _ _) _) _ _ _ | show wpAny _ _ (pyIter _) _ _ _ | show wpAny _ _ (exec (Stmt.Assign _ (Expr.ListComp _ _ _ _) _) _) _ _ _ | show wpAny _ _ (eval (Expr.ListComp _ _ _ _) _) _ _ _ | show LCg.CompSrc _ _ _ _ _ _ _ _ _ _ _ _ _ _ | show LCg.CompEnd _ _ _ _ _ _ _ _ _ _ _ _ _ _ | show LCt.CompSrcT _ _ _ _ _ _ _ _ _ _ _ _ _ _ _)); first | walk1 | (dsimp only; walk1)) | (leave1; try dsimp only) | fail))⟩
def IfP (q : Int) (s : Shared) (v : Value) (s' : Shared) : Prop := ∃ tk t, v = .int (if q < 0 then q - 1 else 0) t ∧ s' = { s with toks := tk }
theorem lw_if {M : Model} {A : Around} {t : Sem Value} {Q E : Value → Shared → Prop} {s : Shared} (q : Int) (h1 : wpAny M A t (IfP q s) E s) (h2 : ∀ tk t, Q (.int (if q < 0 then q - 1 else 0) t) { s with toks := tk }) : wpAny M A t Q E s :=
  wpAny_mono h1 (fun _ _ ⟨tk, t, e1, e2⟩ => by rw [e1, e2]; exact h2 tk t) fun _ _ e => e
theorem lw_if1 {q : Int} {s s' : Shared} {t : Tok} {tk : Nat} (h : q < 0) (e : s' = { s with toks := tk }) : IfP q s (.int (q - 1) t) s' := ⟨tk, t, by rw [if_pos h], e⟩
theorem lw_if2 {q : Int} {s s' : Shared} {t : Tok} {tk : Nat} (h : ¬ q < 0) (e : s' = { s with toks := tk }) : IfP q s (.int 0 t) s' := ⟨tk, t, by rw [if_neg h], e⟩
noncomputable def st3 : { P : Prop // Saved P → st2.1 } := ⟨_, fun hP4 => by
  set_option tactic.hygienic false in intro
  k_fill
  set_option tactic.hygienic false in intros
  refine pl_name ([l0, l1, l2].getD i []) ?_
  intro li eli
  rw [← eli] at hdi hwi hli hbi
  refine Ws.look hba ?_
  intro bx bdx btp braw bt1 bt2 bt3 bt4 bt5 bt6 bt7 bt8 eb bobj bdct
  subst eb
  refine Ws.look hli ?_
  intro lx ldx ltp lraw lt1 lt2 lt3 lt4 lt5 lt6 lt7 lt8 el lobj ldct
  subst el
  refine Ws.look hbi ?_
  intro xx_ xdx_ xtp_ xraw_ xt1_ xt2_ xt3_ xt4_ xt5_ xt6_ xt7_ xt8_ ex xobj xdct
  subst ex
  k_dflt (refine' ct_useI (orders_ct _ _ _ _ _ _ hdi.1) ?kB ?kF ?kX ?kN ?kT ?kk ?kP ?kd ?ku ?_; (case kN => k_asm); (case kP => exact hwi.mono (fun p hp => by k_mem)); (((case kB | kF | kX => k_asm); (try (case kN => k_asm)); (case kT => k_asm); (case kk => first | exact rfl | assumption); (case kd | ku => (with_unfolding_all decide)); k_whole)))
  intro to h2 tk2 F2 N2
  try dsimp only
  try k_sweep
  try k_fold
  refine lw_if q ?_ ?_
  · (repeat' (first | (k_unfold; (try dsimp only)) | (k_end; wrow_close) | ((with_reducible show wpAny _ _ (execs (_ :: _) _) _ _ (Shared.mk _ _ _ (_ + 1) _)); (with_reducible refine toks_cut ?_); intro _) | ((first | ((with_reducible show wpAny _ _ (subscriptTail _ _ (Value.ref _) _) _ _ _); (first | ((k_here; (with_reducible show wpAny _ _ (subscriptTail _ _ (Value.ref _) (Value.int _ _)) _ _ _); k_dflt (refine' item_refM ?hqk1 ?hqk2 ?hqk4 ?hqk5 ?hqk6 ?_; (case hqk1 => k_asm); (case hqk2 => k_mem); (case hqk4 | hqk5 => omega); (case hqk6 => first | assumption | exact rfl)); k_whole)) | ((k_here; (with_reducible show wpAny _ _ (subscriptTail _ _ (Value.ref _) (Value.int _ _)) _ _ _); k_dflt (refine' item_listM ?hqk1 ?hqk2 ?hqk3 ?hqk4 ?hqk5 ?hqk6 ?_; (case hqk1 => k_asm); (case hqk2 => k_mem); (case hqk3 => assumption); (case hqk4 | hqk5 | hqk6 => omega)); k_whole; intro _)) | ((k_here; (with_reducible show wpAny _ _ (subscriptTail _ _ (Value.ref _) (Value.int _ _)) _ _ _); k_dflt (refine' item_tupM ?hqk1 ?hqk2 ?hqk3 ?hqk4 ?hqk5 ?hqk6 ?_; (case hqk1 => k_asm); (case hqk2 => k_mem); (case hqk3 => assumption); (case hqk4 | hqk5 | hqk6 => omega)); k_whole; intro _)))) | ((with_reducible show wpAny _ _ (call (Value.builtin _) _) _ _ _); (first | ((k_here; (with_reducible show wpAny _ _ (call (Value.builtin "len") [Value.ref _]) _ _ _); k_dflt (refine' len_tupM ?hqk1 ?hqk2 ?hqk3 ?hqk4 ?_; (case hqk1 => k_asm); (case hqk2 => k_mem); (case hqk3 => first | exact IntsAre.length (by assumption) | assumption); (case hqk4 => omega)); k_whole)) | ((k_here; (with_reducible show wpAny _ _ (call (Value.builtin "len") [Value.ref _]) _ _ _); k_dflt (refine' len_listM ?hqk1 ?hqk2 ?hqk3 ?hqk4 ?_; (case hqk1 => k_asm); (case hqk2 => k_mem); (case hqk3 => first | exact IntsAre.length (by assumption) | assumption); (case hqk4 => omega)); k_whole)))))) | ((fail_if_success with_reducible (first | show wpAny _ _ (call (Value.ref _) _) _ _ _ | show wpAny _ _ (compareOp CmpOp.In _ _) _ _ _ | show wpAny _ _ (compareOp CmpOp.NotEq (Value.ref _) _) _ _ _ | show wpAny _ _ (call (Value.builtin "max") [Value.ref _]) _ _ _ | show wpAny _ _ (exec (Stmt.For _ _ _ _ _) _) _ _ _ | show wpAny _ _ (pyIter _) _ _ _ | show wpAny _ _ (exec (Stmt.Assign _ (Expr.ListComp _ _ _ _) _) _) _ _ _ | show wpAny _ _ (eval (Expr.ListComp _ _ _ _) _) _ _ _ | show LCg.CompSrc _ _ _ _ _ _ _ _ _ _ _ _ _ _ | show LCg.CompEnd _ _ _ _ _ _ _ _ _ _ _ _ _ _ | show LCt.CompSrcT _ _ _ _ _ _ _ _ _ _ _ _ _ _ _)); first | walk1 | (dsimp only; walk1)) | (leave1; try dsimp only) | fail))
    · exact lw_if1 (by assumption) rfl
    · exact lw_if2 (by assumption) rfl
  · intro tkc tc
    replace hDm : (D, LCg.lst [Value.int (wo q l0) t0, .int (wo q l1) t1, .int (wo q l2) t2]) ∈ R9 := hDm
    obtain ⟨Wv, hWv, ⟨tW, eW⟩⟩ := get3 (P := fun k v => ∃ t, v = Value.int (wo q ([l0, l1, l2].getD k [])) t) hi ⟨t0, rfl⟩ ⟨t1, rfl⟩ ⟨t2, rfl⟩
    subst eW
    replace hWv := (show [Value.int (wo q l0) t0, .int (wo q l1) t1, .int (wo q l2) t2][(0 + (i : Int)).toNat]? = some (Value.int (wo q ([l0, l1, l2].getD i [])) tW) by rw [show (0 + (i : Int)).toNat = i by omega]; exact hWv)
    rw [← eli] at hWv
    have hq0 : q - 1 ≠ 0 := by omega
    have hP1 := pl_mod hq1 hq2 hdi
    try dsimp only
    try k_fold
    (repeat' (first | (k_unfold; (try dsimp only)) | (k_end; wrow_close) | ((with_reducible show wpAny _ _ (execs (_ :: _) _) _ _ (Shared.mk _ _ _ (_ + 1) _)); (with_reducible refine toks_cut ?_); intro _) | ((first | ((with_reducible show wpAny _ _ (subscriptTail _ _ (Value.ref _) _) _ _ _); (first | ((k_here; (with_reducible show wpAny _ _ (subscriptTail _ _ (Value.ref _) (Value.int _ _)) _ _ _); k_dflt (refine' item_refM ?hqk1 ?hqk2 ?hqk4 ?hqk5 ?hqk6 ?_; (case hqk1 => k_asm); (case hqk2 => k_mem); (case hqk4 | hqk5 => omega); (case hqk6 => first | assumption | exact rfl)); k_whole)) | ((k_here; (with_reducible show wpAny _ _ (subscriptTail _ _ (Value.ref _) (Value.int _ _)) _ _ _); k_dflt (refine' item_listM ?hqk1 ?hqk2 ?hqk3 ?hqk4 ?hqk5 ?hqk6 ?_; (case hqk1 => k_asm); (case hqk2 => k_mem); (case hqk3 => assumption); (case hqk4 | hqk5 | hqk6 => omega)); k_whole; intro _)) | ((k_here; (with_reducible show wpAny _ _ (subscriptTail _ _ (Value.ref _) (Value.int _ _)) _ _ _); k_dflt (refine' item_tupM ?hqk1 ?hqk2 ?hqk3 ?hqk4 ?hqk5 ?hqk6 ?_; (case hqk1 => k_asm); (case hqk2 => k_mem); (case hqk3 => assumption); (case hqk4 | hqk5 | hqk6 => omega)); k_whole; intro _)))) | ((with_reducible show wpAny _ _ (call (Value.builtin _) _) _ _ _); (first | ((k_here; (with_reducible show wpAny _ _ (call (Value.builtin "len") [Value.ref _]) _ _ _); k_dflt (refine' len_tupM ?hqk1 ?hqk2 ?hqk3 ?hqk4 ?_; (case hqk1 => k_asm); (case hqk2 => k_mem); (case hqk3 => first | exact IntsAre.length (by assumption) | assumption); (case hqk4 => omega)); k_whole)) | ((k_here; (with_reducible show wpAny _ _ (call (Value.builtin "len") [Value.ref _]) _ _ _); k_dflt (refine' len_listM ?hqk1 ?hqk2 ?hqk3 ?hqk4 ?_; (case hqk1 => k_asm); (case hqk2 => k_mem); (case hqk3 => first | exact IntsAre.length (by assumption) | assumption); (case hqk4 => omega)); k_whole)))))) | ((fail_if_success with_reducible (first | show wpAny _ _ (call (Value.ref _) _) _ _ _ | show wpAny _ _ (compareOp CmpOp.In _ _) _ _ _ | show wpAny _ _ (compareOp CmpOp.NotEq (Value.ref _) _) _ _ _ | show wpAny _ _ (call (Value.builtin "max") [Value.ref _]) _ _ _ | show wpAny _ _ (exec (Stmt.For _ _ _ _ _) _) _ _ _ | show wpAny _ _ (pyIter _) _ _ _ | show wpAny _ _ (exec (Stmt.Assign _ (Expr.ListComp _ _ _ _) _) _) _ _ _ | show wpAny _ _ (eval (Expr.ListComp _ _ _ _) _) _ _ _ | show LCg.CompSrc _ _ _ _ _ _ _ _ _ _ _ _ _ _ | show LCg.CompEnd _ _ _ _ _ _ _ _ _ _ _ _ _ _ | show LCt.CompSrcT _ _ _ _ _ _ _ _ _ _ _ _ _ _ _)); first | walk1 | (dsimp only; walk1)) | (leave1; try dsimp only) | fail))
    k_dflt (refine' ct_useV (mod_ct _ _ _ _ _ _ _ _ hq0) _ hP1 ?kB ?kF ?kX ?kN ?kT ?kk ?kP ?kd ?ku ?_; (case kN => k_asm); (case kP => exact trivial); (((case kB | kF | kX => k_asm); (try (case kN => k_asm)); (case kT => k_asm); (case kk => first | exact rfl | assumption); (case kd | ku => (with_unfolding_all decide)); k_whole)))
    intro tm h3 tk3 F3 N3
    try dsimp only
    try k_sweep
    try k_fold
    (repeat' (first | (k_unfold; (try dsimp only)) | (k_end; wrow_close) | ((with_reducible show wpAny _ _ (execs (_ :: _) _) _ _ (Shared.mk _ _ _ (_ + 1) _)); (with_reducible refine toks_cut ?_); intro _) | ((first | ((with_reducible show wpAny _ _ (subscriptTail _ _ (Value.ref _) _) _ _ _); (first | ((k_here; (with_reducible show wpAny _ _ (subscriptTail _ _ (Value.ref _) (Value.int _ _)) _ _ _); k_dflt (refine' item_refM ?hqk1 ?hqk2 ?hqk4 ?hqk5 ?hqk6 ?_; (case hqk1 => k_asm); (case hqk2 => k_mem); (case hqk4 | hqk5 => omega); (case hqk6 => first | assumption | exact rfl)); k_whole)) | ((k_here; (with_reducible show wpAny _ _ (subscriptTail _ _ (Value.ref _) (Value.int _ _)) _ _ _); k_dflt (refine' item_listM ?hqk1 ?hqk2 ?hqk3 ?hqk4 ?hqk5 ?hqk6 ?_; (case hqk1 => k_asm); (case hqk2 => k_mem); (case hqk3 => assumption); (case hqk4 | hqk5 | hqk6 => omega)); k_whole; intro _)) | ((k_here; (with_reducible show wpAny _ _ (subscriptTail _ _ (Value.ref _) (Value.int _ _)) _ _ _); k_dflt (refine' item_tupM ?hqk1 ?hqk2 ?hqk3 ?hqk4 ?hqk5 ?hqk6 ?_; (case hqk1 => k_asm); (case hqk2 => k_mem); (case hqk3 => assumption); (case hqk4 | hqk5 | hqk6 => omega)); k_whole; intro _)))) | ((with_reducible show wpAny _ _ (call (Value.builtin _) _) _ _ _); (first | ((k_here; (with_reducible show wpAny _ _ (call (Value.builtin "len") [Value.ref _]) _ _ _); k_dflt (refine' len_tupM ?hqk1 ?hqk2 ?hqk3 ?hqk4 ?_; (case hqk1 => k_asm); (case hqk2 => k_mem); (case hqk3 => first | exact IntsAre.length (by assumption) | assumption); (case hqk4 => omega)); k_whole)) | ((k_here; (with_reducible show wpAny _ _ (call (Value.builtin "len") [Value.ref _]) _ _ _); k_dflt (refine' len_listM ?hqk1 ?hqk2 ?hqk3 ?hqk4 ?_; (case hqk1 => k_asm); (case hqk2 => k_mem); (case hqk3 => first | exact IntsAre.length (by assumption) | assumption); (case hqk4 => omega)); k_whole)))))) | ((fail_if_success with_reducible (first | show wpAny _ _ (call (Value.ref _) _) _ _ _ | show wpAny _ _ (compareOp CmpOp.In _ _) _ _ _ | show wpAny _ _ (compareOp CmpOp.NotEq (Value.ref _) _) _ _ _ | show wpAny _ _ (call (Value.builtin "max") [Value.ref _]) _ _ _ | show wpAny _ _ (exec (Stmt.For _ _ _ _ _) _) _ _ _ | show wpAny _ _ (pyIter _) _ _ _ | show wpAny _ _ (exec (Stmt.Assign _ (Expr.ListComp _ _ _ _) _) _) _ _ _ | show wpAny _ _ (eval (Expr.ListComp _ _ _ _) _) _ _ _ | show LCg.CompSrc _ _ _ _ _ _ _ _ _ _ _ _ _ _ | show LCg.CompEnd _ _ _ _ _ _ _ _ _ _ _ _ _ _ | show LCt.CompSrcT _ _ _ _ _ _ _ _ _ _ _ _ _ _ _)); first | walk1 | (dsimp only; walk1)) | (leave1; try dsimp only) | fail))
    k_dflt (refine' ct_useB (less_ct _ _ _ _ _ _ 3 3 0 [3] 9 3 0 (cL li)) false (pl_bare hdi) ?kB ?kF ?kX ?kN ?kT ?kk ?kP ?kd ?ku ?_; (case kN => k_asm); (case kP => exact ⟨Ws.mono hba (fun p hp => by k_mem), Ws.mono hli (fun p hp => by k_mem)⟩); (((case kB | kF | kX => k_asm); (try (case kN => k_asm)); (case kT => k_asm); (case kk => first | exact rfl | assumption); (case kd | ku => (with_unfolding_all decide)); k_whole)))
    intro h4 tk4 F4 N4
    try dsimp only
    try k_sweep
    try k_fold
    (repeat' (first | (k_unfold; (try dsimp only)) | (k_end; wrow_close) | ((with_reducible show wpAny _ _ (execs (_ :: _) _) _ _ (Shared.mk _ _ _ (_ + 1) _)); (with_reducible refine toks_cut ?_); intro _) | ((first | ((with_reducible show wpAny _ _ (subscriptTail _ _ (Value.ref _) _) _ _ _); (first | ((k_here; (with_reducible show wpAny _ _ (subscriptTail _ _ (Value.ref _) (Value.int _ _)) _ _ _); k_dflt (refine' item_refM ?hqk1 ?hqk2 ?hqk4 ?hqk5 ?hqk6 ?_; (case hqk1 => k_asm); (case hqk2 => k_mem); (case hqk4 | hqk5 => omega); (case hqk6 => first | assumption | exact rfl)); k_whole)) | ((k_here; (with_reducible show wpAny _ _ (subscriptTail _ _ (Value.ref _) (Value.int _ _)) _ _ _); k_dflt (refine' item_listM ?hqk1 ?hqk2 ?hqk3 ?hqk4 ?hqk5 ?hqk6 ?_; (case hqk1 => k_asm); (case hqk2 => k_mem); (case hqk3 => assumption); (case hqk4 | hqk5 | hqk6 => omega)); k_whole; intro _)) | ((k_here; (with_reducible show wpAny _ _ (subscriptTail _ _ (Value.ref _) (Value.int _ _)) _ _ _); k_dflt (refine' item_tupM ?hqk1 ?hqk2 ?hqk3 ?hqk4 ?hqk5 ?hqk6 ?_; (case hqk1 => k_asm); (case hqk2 => k_mem); (case hqk3 => assumption); (case hqk4 | hqk5 | hqk6 => omega)); k_whole; intro _)))) | ((with_reducible show wpAny _ _ (call (Value.builtin _) _) _ _ _); (first | ((k_here; (with_reducible show wpAny _ _ (call (Value.builtin "len") [Value.ref _]) _ _ _); k_dflt (refine' len_tupM ?hqk1 ?hqk2 ?hqk3 ?hqk4 ?_; (case hqk1 => k_asm); (case hqk2 => k_mem); (case hqk3 => first | exact IntsAre.length (by assumption) | assumption); (case hqk4 => omega)); k_whole)) | ((k_here; (with_reducible show wpAny _ _ (call (Value.builtin "len") [Value.ref _]) _ _ _); k_dflt (refine' len_listM ?hqk1 ?hqk2 ?hqk3 ?hqk4 ?_; (case hqk1 => k_asm); (case hqk2 => k_mem); (case hqk3 => first | exact IntsAre.length (by assumption) | assumption); (case hqk4 => omega)); k_whole)))))) | ((fail_if_success with_reducible (first | show wpAny _ _ (call (Value.ref _) _) _ _ _ | show wpAny _ _ (compareOp CmpOp.In _ _) _ _ _ | show wpAny _ _ (compareOp CmpOp.NotEq (Value.ref _) _) _ _ _ | show wpAny _ _ (call (Value.builtin "max") [Value.ref _]) _ _ _ | show wpAny _ _ (exec (Stmt.For _ _ _ _ _) _) _ _ _ | show wpAny _ _ (pyIter _) _ _ _ | show wpAny _ _ (exec (Stmt.Assign _ (Expr.ListComp _ _ _ _) _) _) _ _ _ | show wpAny _ _ (eval (Expr.ListComp _ _ _ _) _) _ _ _ | show LCg.CompSrc _ _ _ _ _ _ _ _ _ _ _ _ _ _ | show LCg.CompEnd _ _ _ _ _ _ _ _ _ _ _ _ _ _ | show LCt.CompSrcT _ _ _ _ _ _ _ _ _ _ _ _ _ _ _)); first | walk1 | (dsimp only; walk1)) | (leave1; try dsimp only) | fail))
    k_dflt (refine' ct_useB (less_ct _ _ _ _ _ _ 9 3 0 (cL li) 7 7 0 [7]) false (pl_seven hdi) ?kB ?kF ?kX ?kN ?kT ?kk ?kP ?kd ?ku ?_; (case kN => k_asm); (case kP => exact ⟨Ws.mono hli (fun p hp => by k_mem), Ws.mono hse (fun p hp => by k_mem)⟩); (((case kB | kF | kX => k_asm); (try (case kN => k_asm)); (case kT => k_asm); (case kk => first | exact rfl | assumption); (case kd | ku => (with_unfolding_all decide)); k_whole)))
    intro h5 tk5 F5 N5
    try dsimp only
    try k_sweep
    try k_fold
    clear hP1 hq0
    (repeat' (first | (k_unfold; (try dsimp only)) | (k_end; wrow_close) | ((with_reducible show wpAny _ _ (execs (_ :: _) _) _ _ (Shared.mk _ _ _ (_ + 1) _)); (with_reducible refine toks_cut ?_); intro _) | ((first | ((with_reducible show wpAny _ _ (subscriptTail _ _ (Value.ref _) _) _ _ _); (first | ((k_here; (with_reducible show wpAny _ _ (subscriptTail _ _ (Value.ref _) (Value.int _ _)) _ _ _); k_dflt (refine' item_refM ?hqk1 ?hqk2 ?hqk4 ?hqk5 ?hqk6 ?_; (case hqk1 => k_asm); (case hqk2 => k_mem); (case hqk4 | hqk5 => omega); (case hqk6 => first | assumption | exact rfl)); k_whole)) | ((k_here; (with_reducible show wpAny _ _ (subscriptTail _ _ (Value.ref _) (Value.int _ _)) _ _ _); k_dflt (refine' item_listM ?hqk1 ?hqk2 ?hqk3 ?hqk4 ?hqk5 ?hqk6 ?_; (case hqk1 => k_asm); (case hqk2 => k_mem); (case hqk3 => assumption); (case hqk4 | hqk5 | hqk6 => omega)); k_whole; intro _)) | ((k_here; (with_reducible show wpAny _ _ (subscriptTail _ _ (Value.ref _) (Value.int _ _)) _ _ _); k_dflt (refine' item_tupM ?hqk1 ?hqk2 ?hqk3 ?hqk4 ?hqk5 ?hqk6 ?_; (case hqk1 => k_asm); (case hqk2 => k_mem); (case hqk3 => assumption); (case hqk4 | hqk5 | hqk6 => omega)); k_whole; intro _)))) | ((with_reducible show wpAny _ _ (call (Value.builtin _) _) _ _ _); (first | ((k_here; (with_reducible show wpAny _ _ (call (Value.builtin "len") [Value.ref _]) _ _ _); k_dflt (refine' len_tupM ?hqk1 ?hqk2 ?hqk3 ?hqk4 ?_; (case hqk1 => k_asm); (case hqk2 => k_mem); (case hqk3 => first | exact IntsAre.length (by assumption) | assumption); (case hqk4 => omega)); k_whole)) | ((k_here; (with_reducible show wpAny _ _ (call (Value.builtin "len") [Value.ref _]) _ _ _); k_dflt (refine' len_listM ?hqk1 ?hqk2 ?hqk3 ?hqk4 ?_; (case hqk1 => k_asm); (case hqk2 => k_mem); (case hqk3 => first | exact IntsAre.length (by assumption) | assumption); (case hqk4 => omega)); k_whole)))))) | ((fail_if_success with_reducible (first | show wpAny _ _ (call (Value.ref _) _) _ _ _ | show wpAny _ _ (compareOp CmpOp.In _ _) _ _ _ | show wpAny _ _ (compareOp CmpOp.NotEq (Value.ref _) _) _ _ _ | show wpAny _ _ (call (Value.builtin "max") [Value.ref _]) _ _ _ | show wpAny _ _ (exec (Stmt.For _ _ _ _ _) _) _ _ _ | show wpAny _ _ (pyIter _) _ _ _ | show wpAny _ _ (exec (Stmt.Assign _ (Expr.ListComp _ _ _ _) _) _) _ _ _ | show wpAny _ _ (eval (Expr.ListComp _ _ _ _) _) _ _ _ | show LCg.CompSrc _ _ _ _ _ _ _ _ _ _ _ _ _ _ | show LCg.CompEnd _ _ _ _ _ _ _ _ _ _ _ _ _ _ | show LCt.CompSrcT _ _ _ _ _ _ _ _ _ _ _ _ _ _ _)); first | walk1 | (dsimp only; walk1)) | (leave1; try dsimp only) | fail))
    rename_i v4z1 v4z2 v4z3 _ _ _ _ v4z4 v4z5 _ _ _ _ _
    revert wW v1z1 s₁ v1z2 v1z3 v1z4 v1z5 v1z6 v1z7 v1z8 v1z9 v1z10 v1z11 v1z12 v1z13 v1z14 v1z15 v1z16 v1z17 v1z18 v1z19 v1z20 v1z21 sa svs sns v1z22 v1z23 v1z24 v1z25 v1z26 v1z27 v1z28 v1z29 oq q tq o2 o3 o4 o5 o6 o7 h1 v1z30 wa ww0 ww1 ww2 kw xs R1 l0 l1 l2 v1z31 v1z32 Z g1 v1z33 t0 t1 t2 D v1z34 v1z35 R2 v1z36 v1z37 v1z38 fa fvs fk R3 v1z39 v1z40 of Z3 g3 v1z41 ta0 ta1 ta2 tv0 tv1 tv2 tk0 tk1 v4z1 Dt v1z42 v1z43 R4 v1z44 ot Z4 g4 v1z45 lev0 lev1 lev2 Dle v1z46 v1z47 R5 Z5 g5 v1z48 blv0 blv1 blv2 Dbl v1z49 v1z50 R6 Z6 g6 tw tbv0 tbv1 tbv2 Dtb h v3z1 R7 v1z51 v1z52 v1z53 R8 v1z54 v1z55 v1z56 v1z57 v1z58 v1z59 v1z60 v1z61 v1z62 sev tl3 v4z2 v4z3 R9 v3z2 v3z3 v3z4 v3z5 v3z6 v3z7 v3z8 v3z9 v3z10 c i t' u h' tk' own vm vt vd va wv v3z11 v3z12 tk li bx bdx btp braw bt1 bt2 bt3 bt4 bt5 bt6 bt7 bt8 lx ldx ltp lraw lt1 lt2 lt3 lt4 lt5 lt6 lt7 lt8 xx_ xdx_ xtp_ xraw_ xt1_ xt2_ xt3_ xt4_ xt5_ xt6_ xt7_ xt8_ to h2 tk2 tkc tc tW v4z4 v4z5 tm h3 tk3 h4 tk4 h5 tk5
    exact hP4.out⟩
structure NnSt where
  ot : Obj
  od : Obj
noncomputable def st4 : { P : Prop × Prop // Saved P.1 → Saved P.2 → st3.1 } := ⟨(_, _), fun hP5 hP6 => by
  set_option tactic.hygienic false in intro
  k_fill
  set_option tactic.hygienic false in intros
  rename (Obj.data _ = Data.cell (some (Value.int (0 + (i : Int)) _))) => dM
  refine lw_cE dM ?_
  intro oM eM dM'
  subst eM
  clear dM
  rename Fr _ _ _ _ => lF
  with_unfolding_all refine' For_invVF lF (by exact rfl) (by exact rfl) ?_
  (repeat' (first | (k_unfold; (try dsimp only)) | (k_end; wrow_close) | ((with_reducible show wpAny _ _ (execs (_ :: _) _) _ _ (Shared.mk _ _ _ (_ + 1) _)); (with_reducible refine toks_cut ?_); intro _) | ((((with_reducible show wpAny _ _ (subscriptTail _ _ _ _) _ _ _); (try dsimp only); (with_reducible show wpAny _ _ (subscriptTail _ _ (Value.ref _) (Value.int _ _)) _ _ _); k_here; k_dflt (refine' item_refM ?k1 ?k2 ?k4 ?k5 ?k6 ?_; (case k1 => k_asm); (case k2 => k_mem); (case k4 | k5 => omega); (case k6 => first | assumption | exact rfl)); k_whole))) | ((fail_if_success with_reducible (first | show wpAny _ _ (call (Value.ref _) _) _ _ _ | show wpAny _ _ (compareOp CmpOp.In _ _) _ _ _ | show wpAny _ _ (compareOp CmpOp.NotEq (Value.ref _) _) _ _ _ | show wpAny _ _ (call (Value.builtin "max") [Value.ref _]) _ _ _ | show wpAny _ _ (exec (Stmt.For _ _ _ _ _) _) _ _ _ | show wpAny _ _ (pyIter _) _ _ _ | show wpAny _ _ (exec (Stmt.Assign _ (Expr.ListComp _ _ _ _) _) _) _ _ _ | show wpAny _ _ (eval (Expr.ListComp _ _ _ _) _) _ _ _ | show LCg.CompSrc _ _ _ _ _ _ _ _ _ _ _ _ _ _ | show LCg.CompEnd _ _ _ _ _ _ _ _ _ _ _ _ _ _ | show LCt.CompSrcT _ _ _ _ _ _ _ _ _ _ _ _ _ _ _)); first | walk1 | (dsimp only; walk1)) | (leave1; try dsimp only) | fail))
  rename Fr _ _ _ _ => lF
  rename News _ _ _ _ => lN
  rename IsRange _ _ _ _ _ _ _ _ => hR
  refine pl_name (R9 ++ own) ?_
  intro S9 eS
  rw [← eS] at lN hn4 hn5 hn6 hn7
  have hRS : ∀ p ∈ R9, p ∈ S9 := fun p hp => by rw [eS]; exact List.mem_append.mpr (.inl hp)
  replace hDm := hRS _ hDm
  replace lobj := hRS _ lobj
  replace ldct := hRS _ ldct
  replace xobj := hRS _ xobj
  replace xdct := hRS _ xdct
  replace hli := hli.mono hRS
  replace hbi := hbi.mono hRS
  replace hDle := hRS _ hDle
  replace hDbl := hRS _ hDbl
  replace hDtb := hRS _ hDtb
  replace htm := hRS _ htm
  replace hta0 := hRS _ hta0
  replace hta1 := hRS _ hta1
  replace hta2 := hRS _ hta2
  with_unfolding_all refine lp_range (σ := NnSt) (fun e => (s₁.heap.objs.size + 1 + 1 + 1 + 1 + 1 + 1 + 1, c.oa) :: (s₁.heap.objs.size + 1 + 1 + 1 + 1 + 1 + 1, e.od) :: (s₁.heap.objs.size + 1 + 1 + 1 + 1 + 1, e.ot) :: (s₁.heap.objs.size + 1 + 1 + 1 + 1, oM) :: (s₁.heap.objs.size + 1 + 1 + 1, ot) :: (s₁.heap.objs.size + 1 + 1, of) :: (s₁.heap.objs.size + 1, oq) :: S9) (fun _ => [(Str.ofString "bare", .ref bx), (Str.ofString "tabs", .ref Dtb), (Str.ofString "blanks", .ref Dbl), (Str.ofString "leads", .ref Dle), (Str.ofString "worths", .ref D), (Str.ofString "words", .ref wa)]) [] (fun _ e => (∃ v, e.ot.data = .cell v) ∧ (∃ v, e.od.data = .cell v)) ⟨c.ot, c.od⟩ (by exact rfl) hR (small_of (by decide) (by decide) (by decide) (by decide)) (rangeSize_nat 0 3) lF lN (List.forall_mem_cons.mpr ⟨by with_unfolding_all rfl, List.forall_mem_cons.mpr ⟨by with_unfolding_all rfl, List.forall_mem_cons.mpr ⟨by with_unfolding_all rfl, List.forall_mem_cons.mpr ⟨by with_unfolding_all rfl, List.forall_mem_cons.mpr ⟨by with_unfolding_all rfl, List.forall_mem_cons.mpr ⟨by with_unfolding_all rfl, List.forall_mem_nil _⟩⟩⟩⟩⟩⟩) ⟨⟨_, dt⟩, ⟨_, dd⟩⟩ ?_ ?_
  · intro e j tj u2 h6 tk6 own2 hj hoff2 hP6 F6 N6
    replace hj : j < 3 := hj
    obtain ⟨⟨vt2, dt2⟩, ⟨vd2, dd2⟩⟩ := hP6
    simp only [List.cons_append] at N6
    have hm5 : ∀ p ∈ S9 ++ own2, p.1 ≠ s₁.heap.objs.size + 1 + 1 + 1 + 1 + 1 := fun p hp => (List.mem_append.mp hp).elim (hn5 p) (fun h => hoff2 p h _ (by simp))
    have hm6 : ∀ p ∈ S9 ++ own2, p.1 ≠ s₁.heap.objs.size + 1 + 1 + 1 + 1 + 1 + 1 := fun p hp => (List.mem_append.mp hp).elim (hn6 p) (fun h => hoff2 p h _ (by simp))
    refine get3E (P := fun k v => Ws wW R9 v 10 4 0 (cTt ([l0, l1, l2].getD k []))) hj htb0 htb1 htb2 ?_
    intro tbj htj hTj
    refine get3E (P := fun k v => Ws wW R9 v 9 3 0 (cL ([l0, l1, l2].getD k []))) hj hle0 hle1 hle2 ?_
    intro ldj hlj hLj
    refine get3E (P := fun k v => Ws wW R9 v 10 3 1 (cL ([l0, l1, l2].getD k []))) hj hbl0 hbl1 hbl2 ?_
    intro bkj hbj hBj
    obtain ⟨Wj, hWj, ⟨tWj, eWj⟩⟩ := get3 (P := fun k v => ∃ t, v = Value.int (wo q ([l0, l1, l2].getD k [])) t) hj ⟨t0, rfl⟩ ⟨t1, rfl⟩ ⟨t2, rfl⟩
    subst eWj
    have hdj := lw_d3 hj hwd0 hwd1 hwd2
    replace htj : [tbv0, tbv1, tbv2][(0 + (j : Int)).toNat]? = some tbj := by rw [show (0 + (j : Int)).toNat = j by omega]; exact htj
    replace hlj : [lev0, lev1, lev2][(0 + (j : Int)).toNat]? = some ldj := by rw [show (0 + (j : Int)).toNat = j by omega]; exact hlj
    replace hbj : [blv0, blv1, blv2][(0 + (j : Int)).toNat]? = some bkj := by rw [show (0 + (j : Int)).toNat = j by omega]; exact hbj
    replace hWj := (show [Value.int (wo q l0) t0, .int (wo q l1) t1, .int (wo q l2) t2][(0 + (j : Int)).toNat]? = some (Value.int (wo q ([l0, l1, l2].getD j [])) tWj) by rw [show (0 + (j : Int)).toNat = j by omega]; exact hWj)
    refine pl_name ([l0, l1, l2].getD j []) ?_
    intro lj elj
    rw [← elj] at hTj hLj hBj hWj hdj
    replace hTj := hTj.mono hRS
    replace hLj := hLj.mono hRS
    replace hBj := hBj.mono hRS
    have hw0j := pl_wnz hq1 hq2 hdj
    try k_fold
    rename_i _ _ _ _ v5z1 v5z2 v5z3 v5z4 v5z5 _
    revert wW v1z1 s₁ v1z2 v1z3 v1z4 v1z5 v1z6 v1z7 v1z8 v1z9 v1z10 v1z11 v1z12 v1z13 v1z14 v1z15 v1z16 v1z17 v1z18 v1z19 v1z20 v1z21 sa svs sns v1z22 v1z23 v1z24 v1z25 v1z26 v1z27 v1z28 v1z29 oq q tq o2 o3 o4 o5 o6 o7 h1 v1z30 wa ww0 ww1 ww2 kw xs R1 l0 l1 l2 v1z31 v1z32 Z g1 v1z33 t0 t1 t2 D v1z34 v1z35 R2 v1z36 v1z37 v1z38 fa fvs fk R3 v1z39 v1z40 of Z3 g3 v1z41 ta0 ta1 ta2 tv0 tv1 tv2 tk0 tk1 v4z1 Dt v1z42 v1z43 R4 v1z44 ot Z4 g4 v1z45 lev0 lev1 lev2 Dle v1z46 v1z47 R5 Z5 g5 v1z48 blv0 blv1 blv2 Dbl v1z49 v1z50 R6 Z6 g6 tw tbv0 tbv1 tbv2 Dtb h v3z1 R7 v1z51 v1z52 v1z53 R8 v1z54 v1z55 v1z56 v1z57 v1z58 v1z59 v1z60 v1z61 v1z62 sev tl3 v4z2 v4z3 R9 v3z2 v3z3 v3z4 v3z5 v3z6 v3z7 v3z8 v3z9 v3z10 c i t' u h' tk' own vm vt vd va wv v3z11 tk li bx bdx btp braw bt1 bt2 bt3 bt4 bt5 bt6 bt7 bt8 lx ldx ltp lraw lt1 lt2 lt3 lt4 lt5 lt6 lt7 lt8 xx_ xdx_ xtp_ xraw_ xt1_ xt2_ xt3_ xt4_ xt5_ xt6_ xt7_ xt8_ to h2 tk2 tkc tc tW v4z4 v4z5 tm h3 tk3 h4 tk4 h5 tk5 oM v5z1 v5z2 v5z3 v5z4 v5z5 S9 e j tj u2 h6 tk6 own2 vt2 vd2 tbj ldj bkj tWj lj
    exact hP5.out
  · intro e6 u6 h6 tk6 hP6 F6 N6
    obtain ⟨⟨vt2, dt2⟩, ⟨vd2, dd2⟩⟩ := hP6
    try k_fold
    rename_i _ _ _ _ v6z1 v6z2 v6z3 v6z4 v6z5 _
    revert wW v1z1 s₁ v1z2 v1z3 v1z4 v1z5 v1z6 v1z7 v1z8 v1z9 v1z10 v1z11 v1z12 v1z13 v1z14 v1z15 v1z16 v1z17 v1z18 v1z19 v1z20 v1z21 sa svs sns v1z22 v1z23 v1z24 v1z25 v1z26 v1z27 v1z28 v1z29 oq q tq o2 o3 o4 o5 o6 o7 h1 v1z30 wa ww0 ww1 ww2 kw xs R1 l0 l1 l2 v1z31 v1z32 Z g1 v1z33 t0 t1 t2 D v1z34 v1z35 R2 v1z36 v1z37 v1z38 fa fvs fk R3 v1z39 v1z40 of Z3 g3 v1z41 ta0 ta1 ta2 tv0 tv1 tv2 tk0 tk1 v4z1 Dt v1z42 v1z43 R4 v1z44 ot Z4 g4 v1z45 lev0 lev1 lev2 Dle v1z46 v1z47 R5 Z5 g5 v1z48 blv0 blv1 blv2 Dbl v1z49 v1z50 R6 Z6 g6 tw tbv0 tbv1 tbv2 Dtb h v3z1 R7 v1z51 v1z52 v1z53 R8 v1z54 v1z55 v1z56 v1z57 v1z58 v1z59 v1z60 v1z61 v1z62 sev tl3 v4z2 v4z3 R9 v3z2 v3z3 v3z4 v3z5 v3z6 v3z7 v3z8 v3z9 v3z10 c i t' u h' tk' own vm vt vd va wv v3z11 tk li bx bdx btp braw bt1 bt2 bt3 bt4 bt5 bt6 bt7 bt8 lx ldx ltp lraw lt1 lt2 lt3 lt4 lt5 lt6 lt7 lt8 xx_ xdx_ xtp_ xraw_ xt1_ xt2_ xt3_ xt4_ xt5_ xt6_ xt7_ xt8_ to h2 tk2 tkc tc tW v4z4 v4z5 tm h3 tk3 h4 tk4 h5 tk5 oM v6z1 v6z2 v6z3 v6z4 v6z5 S9 e6 u6 h6 tk6 vt2 vd2
    exact hP6.out⟩
noncomputable def st5 : { P : Prop // Saved P → st4.1.1 } := ⟨_, fun hP7 => by
  set_option tactic.hygienic false in intro
  k_fill
  set_option tactic.hygienic false in intros
  (repeat' (first | (k_unfold; (try dsimp only)) | (k_end; wrow_close) | ((with_reducible show wpAny _ _ (execs (_ :: _) _) _ _ (Shared.mk _ _ _ (_ + 1) _)); (with_reducible refine toks_cut ?_); intro _) | ((((with_reducible show wpAny _ _ (subscriptTail _ _ _ _) _ _ _); (try dsimp only); (with_reducible show wpAny _ _ (subscriptTail _ _ (Value.ref _) (Value.int _ _)) _ _ _); k_here; k_dflt (refine' item_refM ?k1 ?k2 ?k4 ?k5 ?k6 ?_; (case k1 => k_asm); (case k2 => k_mem); (case k4 | k5 => omega); (case k6 => first | assumption | exact rfl)); k_whole))) | ((fail_if_success with_reducible (first | show wpAny _ _ (call (Value.ref _) _) _ _ _ | show wpAny _ _ (compareOp CmpOp.In _ _) _ _ _ | show wpAny _ _ (compareOp CmpOp.NotEq (Value.ref _) _) _ _ _ | show wpAny _ _ (call (Value.builtin "max") [Value.ref _]) _ _ _ | show wpAny _ _ (exec (Stmt.For _ _ _ _ _) _) _ _ _ | show wpAny _ _ (pyIter _) _ _ _ | show wpAny _ _ (exec (Stmt.Assign _ (Expr.ListComp _ _ _ _) _) _) _ _ _ | show wpAny _ _ (eval (Expr.ListComp _ _ _ _) _) _ _ _ | show LCg.CompSrc _ _ _ _ _ _ _ _ _ _ _ _ _ _ | show LCg.CompEnd _ _ _ _ _ _ _ _ _ _ _ _ _ _ | show LCt.CompSrcT _ _ _ _ _ _ _ _ _ _ _ _ _ _ _)); first | walk1 | (dsimp only; walk1)) | (leave1; try dsimp only) | fail))
  k_dflt (refine' ct_useB (less_ct _ _ _ _ _ _ 9 3 0 (cL li) 10 4 0 (cTt lj)) _ (pl_less hq1 hq2 hdi hdj) ?kB ?kF ?kX ?kN ?kT ?kk ?kP ?kd ?ku ?_; (case kN => k_asm); (case kP => exact ⟨Ws.mono hli (fun p hp => by k_mem), Ws.mono hTj (fun p hp => by k_mem)⟩); (((case kB | kF | kX => k_asm); (try (case kN => k_asm)); (case kT => k_asm); (case kk => first | exact rfl | assumption); (case kd | ku => (with_unfolding_all decide)); k_whole)))
  intro h10 tk10 F10 N10
  try dsimp only
  try k_sweep
  try k_fold
  (repeat' (first | (k_unfold; (try dsimp only)) | (k_end; wrow_close) | ((with_reducible show wpAny _ _ (execs (_ :: _) _) _ _ (Shared.mk _ _ _ (_ + 1) _)); (with_reducible refine toks_cut ?_); intro _) | ((((with_reducible show wpAny _ _ (subscriptTail _ _ _ _) _ _ _); (try dsimp only); (with_reducible show wpAny _ _ (subscriptTail _ _ (Value.ref _) (Value.int _ _)) _ _ _); k_here; k_dflt (refine' item_refM ?k1 ?k2 ?k4 ?k5 ?k6 ?_; (case k1 => k_asm); (case k2 => k_mem); (case k4 | k5 => omega); (case k6 => first | assumption | exact rfl)); k_whole))) | ((fail_if_success with_reducible (first | show wpAny _ _ (call (Value.ref _) _) _ _ _ | show wpAny _ _ (compareOp CmpOp.In _ _) _ _ _ | show wpAny _ _ (compareOp CmpOp.NotEq (Value.ref _) _) _ _ _ | show wpAny _ _ (call (Value.builtin "max") [Value.ref _]) _ _ _ | show wpAny _ _ (exec (Stmt.For _ _ _ _ _) _) _ _ _ | show wpAny _ _ (pyIter _) _ _ _ | show wpAny _ _ (exec (Stmt.Assign _ (Expr.ListComp _ _ _ _) _) _) _ _ _ | show wpAny _ _ (eval (Expr.ListComp _ _ _ _) _) _ _ _ | show LCg.CompSrc _ _ _ _ _ _ _ _ _ _ _ _ _ _ | show LCg.CompEnd _ _ _ _ _ _ _ _ _ _ _ _ _ _ | show LCt.CompSrcT _ _ _ _ _ _ _ _ _ _ _ _ _ _ _)); first | walk1 | (dsimp only; walk1)) | (leave1; try dsimp only) | fail))
  k_dflt (refine' ct_useB (less_ct _ _ _ _ _ _ 10 3 1 (cL li) 10 4 0 (cTt lj)) false (pl_never hdi hdj) ?kB ?kF ?kX ?kN ?kT ?kk ?kP ?kd ?ku ?_; (case kN => k_asm); (case kP => exact ⟨Ws.mono hbi (fun p hp => by k_mem), Ws.mono hTj (fun p hp => by k_mem)⟩); (((case kB | kF | kX => k_asm); (try (case kN => k_asm)); (case kT => k_asm); (case kk => first | exact rfl | assumption); (case kd | ku => (with_unfolding_all decide)); k_whole)))
  intro h11 tk11 F11 N11
  try dsimp only
  try k_sweep
  try k_fold
  (repeat' (first | (k_unfold; (try dsimp only)) | (k_end; wrow_close) | ((with_reducible show wpAny _ _ (execs (_ :: _) _) _ _ (Shared.mk _ _ _ (_ + 1) _)); (with_reducible refine toks_cut ?_); intro _) | ((((with_reducible show wpAny _ _ (subscriptTail _ _ _ _) _ _ _); (try dsimp only); (with_reducible show wpAny _ _ (subscriptTail _ _ (Value.ref _) (Value.int _ _)) _ _ _); k_here; k_dflt (refine' item_refM ?k1 ?k2 ?k4 ?k5 ?k6 ?_; (case k1 => k_asm); (case k2 => k_mem); (case k4 | k5 => omega); (case k6 => first | assumption | exact rfl)); k_whole))) | ((fail_if_success with_reducible (first | show wpAny _ _ (call (Value.ref _) _) _ _ _ | show wpAny _ _ (compareOp CmpOp.In _ _) _ _ _ | show wpAny _ _ (compareOp CmpOp.NotEq (Value.ref _) _) _ _ _ | show wpAny _ _ (call (Value.builtin "max") [Value.ref _]) _ _ _ | show wpAny _ _ (exec (Stmt.For _ _ _ _ _) _) _ _ _ | show wpAny _ _ (pyIter _) _ _ _ | show wpAny _ _ (exec (Stmt.Assign _ (Expr.ListComp _ _ _ _) _) _) _ _ _ | show wpAny _ _ (eval (Expr.ListComp _ _ _ _) _) _ _ _ | show LCg.CompSrc _ _ _ _ _ _ _ _ _ _ _ _ _ _ | show LCg.CompEnd _ _ _ _ _ _ _ _ _ _ _ _ _ _ | show LCt.CompSrcT _ _ _ _ _ _ _ _ _ _ _ _ _ _ _)); first | walk1 | (dsimp only; walk1)) | (leave1; try dsimp only) | fail))
  k_dflt (refine' ct_useB (equal_ct _ _ _ _ _ _ 9 3 0 (cL li) 9 3 0 (cL lj)) (decide (wo q li = wo q lj)) (by rw [pl_equal hq1 hq2 hdi hdj, decide_eq_true (rfl : (0 : Int) = 0), Bool.and_true]) ?kB ?kF ?kX ?kN ?kT ?kk ?kP ?kd ?ku ?_; (case kN => k_asm); (case kP => exact ⟨Ws.mono hli (fun p hp => by k_mem), Ws.mono hLj (fun p hp => by k_mem)⟩); (((case kB | kF | kX => k_asm); (try (case kN => k_asm)); (case kT => k_asm); (case kk => first | exact rfl | assumption); (case kd | ku => (with_unfolding_all decide)); k_whole)))
  intro h12 tk12 F12 N12
  try dsimp only
  try k_sweep
  try k_fold
  (repeat' (first | (k_unfold; (try dsimp only)) | (k_end; wrow_close) | ((with_reducible show wpAny _ _ (execs (_ :: _) _) _ _ (Shared.mk _ _ _ (_ + 1) _)); (with_reducible refine toks_cut ?_); intro _) | ((((with_reducible show wpAny _ _ (subscriptTail _ _ _ _) _ _ _); (try dsimp only); (with_reducible show wpAny _ _ (subscriptTail _ _ (Value.ref _) (Value.int _ _)) _ _ _); k_here; k_dflt (refine' item_refM ?k1 ?k2 ?k4 ?k5 ?k6 ?_; (case k1 => k_asm); (case k2 => k_mem); (case k4 | k5 => omega); (case k6 => first | assumption | exact rfl)); k_whole))) | ((fail_if_success with_reducible (first | show wpAny _ _ (call (Value.ref _) _) _ _ _ | show wpAny _ _ (compareOp CmpOp.In _ _) _ _ _ | show wpAny _ _ (compareOp CmpOp.NotEq (Value.ref _) _) _ _ _ | show wpAny _ _ (call (Value.builtin "max") [Value.ref _]) _ _ _ | show wpAny _ _ (exec (Stmt.For _ _ _ _ _) _) _ _ _ | show wpAny _ _ (pyIter _) _ _ _ | show wpAny _ _ (exec (Stmt.Assign _ (Expr.ListComp _ _ _ _) _) _) _ _ _ | show wpAny _ _ (eval (Expr.ListComp _ _ _ _) _) _ _ _ | show LCg.CompSrc _ _ _ _ _ _ _ _ _ _ _ _ _ _ | show LCg.CompEnd _ _ _ _ _ _ _ _ _ _ _ _ _ _ | show LCt.CompSrcT _ _ _ _ _ _ _ _ _ _ _ _ _ _ _)); first | walk1 | (dsimp only; walk1)) | (leave1; try dsimp only) | fail))
  k_dflt (refine' ct_useB (equal_ct _ _ _ _ _ _ 9 3 0 (cL li) 10 3 1 (cL lj)) false (by rw [decide_eq_false (show ¬ (0 : Int) = 1 by decide), Bool.and_false]) ?kB ?kF ?kX ?kN ?kT ?kk ?kP ?kd ?ku ?_; (case kN => k_asm); (case kP => exact ⟨Ws.mono hli (fun p hp => by k_mem), Ws.mono hBj (fun p hp => by k_mem)⟩); (((case kB | kF | kX => k_asm); (try (case kN => k_asm)); (case kT => k_asm); (case kk => first | exact rfl | assumption); (case kd | ku => (with_unfolding_all decide)); k_whole)))
  intro h13 tk13 F13 N13
  try dsimp only
  try k_sweep
  try k_fold
  (repeat' (first | (k_unfold; (try dsimp only)) | (k_end; wrow_close) | ((with_reducible show wpAny _ _ (execs (_ :: _) _) _ _ (Shared.mk _ _ _ (_ + 1) _)); (with_reducible refine toks_cut ?_); intro _) | ((((with_reducible show wpAny _ _ (subscriptTail _ _ _ _) _ _ _); (try dsimp only); (with_reducible show wpAny _ _ (subscriptTail _ _ (Value.ref _) (Value.int _ _)) _ _ _); k_here; k_dflt (refine' item_refM ?k1 ?k2 ?k4 ?k5 ?k6 ?_; (case k1 => k_asm); (case k2 => k_mem); (case k4 | k5 => omega); (case k6 => first | assumption | exact rfl)); k_whole))) | ((fail_if_success with_reducible (first | show wpAny _ _ (call (Value.ref _) _) _ _ _ | show wpAny _ _ (compareOp CmpOp.In _ _) _ _ _ | show wpAny _ _ (compareOp CmpOp.NotEq (Value.ref _) _) _ _ _ | show wpAny _ _ (call (Value.builtin "max") [Value.ref _]) _ _ _ | show wpAny _ _ (exec (Stmt.For _ _ _ _ _) _) _ _ _ | show wpAny _ _ (pyIter _) _ _ _ | show wpAny _ _ (exec (Stmt.Assign _ (Expr.ListComp _ _ _ _) _) _) _ _ _ | show wpAny _ _ (eval (Expr.ListComp _ _ _ _) _) _ _ _ | show LCg.CompSrc _ _ _ _ _ _ _ _ _ _ _ _ _ _ | show LCg.CompEnd _ _ _ _ _ _ _ _ _ _ _ _ _ _ | show LCt.CompSrcT _ _ _ _ _ _ _ _ _ _ _ _ _ _ _)); first | walk1 | (dsimp only; walk1)) | (leave1; try dsimp only) | fail))
  k_dflt (refine' ct_useI (mod_ct _ _ _ _ _ _ _ _ hw0j) ?kB ?kF ?kX ?kN ?kT ?kk ?kP ?kd ?ku ?_; (case kN => k_asm); (case kP => exact trivial); (((case kB | kF | kX => k_asm); (try (case kN => k_asm)); (case kT => k_asm); (case kk => first | exact rfl | assumption); (case kd | ku => (with_unfolding_all decide)); k_whole)))
  intro tm14 h14 tk14 F14 N14
  try dsimp only
  try k_sweep
  try k_fold
  (repeat' (first | (k_unfold; (try dsimp only)) | (k_end; wrow_close) | ((with_reducible show wpAny _ _ (execs (_ :: _) _) _ _ (Shared.mk _ _ _ (_ + 1) _)); (with_reducible refine toks_cut ?_); intro _) | ((((with_reducible show wpAny _ _ (subscriptTail _ _ _ _) _ _ _); (try dsimp only); (with_reducible show wpAny _ _ (subscriptTail _ _ (Value.ref _) (Value.int _ _)) _ _ _); k_here; k_dflt (refine' item_refM ?k1 ?k2 ?k4 ?k5 ?k6 ?_; (case k1 => k_asm); (case k2 => k_mem); (case k4 | k5 => omega); (case k6 => first | assumption | exact rfl)); k_whole))) | ((fail_if_success with_reducible (first | show wpAny _ _ (call (Value.ref _) _) _ _ _ | show wpAny _ _ (compareOp CmpOp.In _ _) _ _ _ | show wpAny _ _ (compareOp CmpOp.NotEq (Value.ref _) _) _ _ _ | show wpAny _ _ (call (Value.builtin "max") [Value.ref _]) _ _ _ | show wpAny _ _ (exec (Stmt.For _ _ _ _ _) _) _ _ _ | show wpAny _ _ (pyIter _) _ _ _ | show wpAny _ _ (exec (Stmt.Assign _ (Expr.ListComp _ _ _ _) _) _) _ _ _ | show wpAny _ _ (eval (Expr.ListComp _ _ _ _) _) _ _ _ | show LCg.CompSrc _ _ _ _ _ _ _ _ _ _ _ _ _ _ | show LCg.CompEnd _ _ _ _ _ _ _ _ _ _ _ _ _ _ | show LCt.CompSrcT _ _ _ _ _ _ _ _ _ _ _ _ _ _ _)); first | walk1 | (dsimp only; walk1)) | (leave1; try dsimp only) | fail))
  rename_i _ _ v7z1 _ _ _ _ _ _ _ _ v7z2 v7z3 _ v7z4 v7z5 _ v7z6 v7z7 _ v7z8 v7z9 _ _ _ v7z10
  revert wW v1z1 s₁ v1z2 v1z3 v1z4 v1z5 v1z6 v1z7 v1z8 v1z9 v1z10 v1z11 v1z12 v1z13 v1z14 v1z15 v1z16 v1z17 v1z18 v1z19 v1z20 v1z21 sa svs sns v1z22 v1z23 v1z24 v1z25 v1z26 v1z27 v1z28 v1z29 oq q tq o2 o3 o4 o5 o6 o7 h1 v1z30 wa ww0 ww1 ww2 kw xs R1 l0 l1 l2 v1z31 v1z32 Z g1 v1z33 t0 t1 t2 D v1z34 v1z35 R2 v1z36 v1z37 v1z38 fa fvs fk R3 v1z39 v1z40 of Z3 g3 v1z41 ta0 ta1 ta2 tv0 tv1 tv2 tk0 tk1 v4z1 Dt v1z42 v1z43 R4 v1z44 ot Z4 g4 v1z45 lev0 lev1 lev2 Dle v1z46 v1z47 R5 Z5 g5 v1z48 blv0 blv1 blv2 Dbl v1z49 v1z50 R6 Z6 g6 tw tbv0 tbv1 tbv2 Dtb h v3z1 R7 v1z51 v1z52 v1z53 R8 v1z54 v1z55 v1z56 v1z57 v1z58 v1z59 v1z60 v1z61 v1z62 sev tl3 v4z2 v4z3 R9 v3z2 v3z3 v3z4 v3z5 v3z6 v3z7 v3z8 v3z9 v3z10 c i t' u h' tk' own vm vt vd va wv v3z11 v7z1 li bx bdx btp braw bt1 bt2 bt3 bt4 bt5 bt6 bt7 bt8 lx ldx ltp lraw lt1 lt2 lt3 lt4 lt5 lt6 lt7 lt8 xx_ xdx_ xtp_ xraw_ xt1_ xt2_ xt3_ xt4_ xt5_ xt6_ xt7_ xt8_ to h2 tk2 tkc tc tW v4z4 v4z5 tm h3 tk3 h4 tk4 h5 tk5 oM v5z1 v5z2 v5z3 v5z4 v5z5 S9 e j tj u2 h6 tk6 own2 vt2 vd2 tbj ldj bkj tWj lj h10 tk10 h11 tk11 h12 tk12 h13 tk13 v7z2 v7z3 v7z4 v7z5 tk tm14 h14 tk14 v7z6 v7z7 v7z8 v7z9 v7z10
  exact hP7.out⟩
theorem i7_mem1 {p x1 x2 x3 x4 a b c d e f g : Addr × Obj} {S own : Led} (h : p ∈ a :: b :: c :: d :: e :: f :: g :: S) : p ∈ x1 :: x2 :: x3 :: x4 :: a :: b :: c :: d :: e :: f :: g :: (S ++ own) := by
  simp only [List.mem_cons, List.mem_append] at *
  rcases h with h | h | h | h | h | h | h | h <;> simp [h]
theorem i7_mem2 {p x1 x2 x3 x4 a b c d e f g : Addr × Obj} {S own : Led} (h : p ∈ own) : p ∈ x1 :: x2 :: x3 :: x4 :: a :: b :: c :: d :: e :: f :: g :: (S ++ own) := by
  simp [h]
theorem get4 {x y : Bool} {i : Nat} (hi : i < 4) : ∃ b : Bool, [Value.bool x, .bool false, .bool y, .bool false][(0 + (i : Int)).toNat]? = some (.bool b) := by
  rw [show (0 + (i : Int)).toNat = i by omega]
  match i, hi with
  | 0, _ => exact ⟨_, rfl⟩
  | 1, _ => exact ⟨_, rfl⟩
  | 2, _ => exact ⟨_, rfl⟩
  | 3, _ => exact ⟨_, rfl⟩
theorem p7 : st5.1 := by
  set_option tactic.hygienic false in intro
  k_fill
  set_option tactic.hygienic false in intros
  rename News _ _ _ ((_, listOf #[Value.bool _, _, _, _] _) :: _) => lN
  refine pl_name (((wo q li).fmod (wo q lj) == 0)) ?_
  intro B1 eB1
  refine pl_name ((wo q li == wo q lj)) ?_
  intro B2 eB2
  replace lN := (show News _ _ _ ((_, listOf #[Value.bool ((wo q li).fmod (wo q lj) == 0), Value.bool false, Value.bool (wo q li == wo q lj), Value.bool false] _) :: (_, listOf #[Value.bool ((wo q li).fmod (wo q lj) == 0), Value.bool false, Value.bool (wo q li == wo q lj), Value.bool false] _) :: _) from lN)
  rw [← eB1, ← eB2] at lN
  k_dflt (refine LCt.ListComp_T (F₀ := by k_asm) (by with_unfolding_all rfl) (by decide) (by rfl) (by decide) (by rfl) ?_)
  (repeat' (first | (k_unfold; (try dsimp only)) | (k_end; wrow_close) | ((with_reducible show wpAny _ _ (execs (_ :: _) _) _ _ (Shared.mk _ _ _ (_ + 1) _)); (with_reducible refine toks_cut ?_); intro _) | ((((with_reducible show wpAny _ _ (subscriptTail _ _ _ _) _ _ _); (try dsimp only); (with_reducible show wpAny _ _ (subscriptTail _ _ (Value.ref _) (Value.int _ _)) _ _ _); k_here; k_dflt (refine' item_refM ?k1 ?k2 ?k4 ?k5 ?k6 ?_; (case k1 => k_asm); (case k2 => k_mem); (case k4 | k5 => omega); (case k6 => first | assumption | exact rfl)); k_whole))) | ((fail_if_success with_reducible (first | show wpAny _ _ (call (Value.ref _) _) _ _ _ | show wpAny _ _ (compareOp CmpOp.In _ _) _ _ _ | show wpAny _ _ (compareOp CmpOp.NotEq (Value.ref _) _) _ _ _ | show wpAny _ _ (call (Value.builtin "max") [Value.ref _]) _ _ _ | show wpAny _ _ (exec (Stmt.For _ _ _ _ _) _) _ _ _ | show wpAny _ _ (pyIter _) _ _ _ | show wpAny _ _ (exec (Stmt.Assign _ (Expr.ListComp _ _ _ _) _) _) _ _ _ | show wpAny _ _ (eval (Expr.ListComp _ _ _ _) _) _ _ _ | show LCg.CompSrc _ _ _ _ _ _ _ _ _ _ _ _ _ _ | show LCg.CompEnd _ _ _ _ _ _ _ _ _ _ _ _ _ _ | show LCt.CompSrcT _ _ _ _ _ _ _ _ _ _ _ _ _ _ _)); first | walk1 | (dsimp only; walk1)) | (leave1; try dsimp only) | fail))
  rename Fr _ _ _ _ => lF
  rename News _ _ _ _ => lN
  rename IsRange _ _ _ _ _ _ _ _ => hR
  rename (Obj.data _ = Data.cell (some (Value.ref _))) => ddu
  refine lw_cE ddu ?_
  intro oD eD ddu'
  subst eD
  clear ddu
  revert ddu'
  rename (Obj.data _ = Data.cell (some (Value.ref _))) => dto
  refine lw_cE dto ?_
  intro oT eT dto'
  subst eT
  clear dto
  intro ddu'
  with_unfolding_all refine LCt.CompSrcT.range (n := 4) (by rfl) lF lN hR (small_of (by decide) (by decide) (by decide) (by decide)) (rangeSize_nat 0 4) (by decide) ?_
  intro g2
  refine crT_inv (fun j ys nw2 => nw2 = _ ∧ ys = []) ⟨rfl, rfl⟩ ?_ ?_
  · intro i4 v I oI C oC D2 m₂ ys nw2 h2 tk2 E' hj4 hv hJ2 hC hx F2 N2 off ne
    obtain ⟨rfl, rfl⟩ := hJ2
    obtain ⟨tv, rfl⟩ := hv
    obtain ⟨b4, hb4⟩ := get4 (x := B1) (y := B2) hj4
    try k_fold
    (repeat' (first | (k_unfold; (try dsimp only)) | (k_end; wrow_close) | ((with_reducible show wpAny _ _ (execs (_ :: _) _) _ _ (Shared.mk _ _ _ (_ + 1) _)); (with_reducible refine toks_cut ?_); intro _) | ((((with_reducible show wpAny _ _ (subscriptTail _ _ _ _) _ _ _); (try dsimp only); (with_reducible show wpAny _ _ (subscriptTail _ _ (Value.ref _) (Value.int _ _)) _ _ _); k_here; k_dflt (refine' item_refM ?k1 ?k2 ?k4 ?k5 ?k6 ?_; (case k1 => k_asm); (case k2 => k_mem); (case k4 | k5 => omega); (case k6 => first | assumption | exact rfl)); k_whole))) | ((fail_if_success with_reducible (first | show wpAny _ _ (call (Value.ref _) _) _ _ _ | show wpAny _ _ (compareOp CmpOp.In _ _) _ _ _ | show wpAny _ _ (compareOp CmpOp.NotEq (Value.ref _) _) _ _ _ | show wpAny _ _ (call (Value.builtin "max") [Value.ref _]) _ _ _ | show wpAny _ _ (exec (Stmt.For _ _ _ _ _) _) _ _ _ | show wpAny _ _ (pyIter _) _ _ _ | show wpAny _ _ (exec (Stmt.Assign _ (Expr.ListComp _ _ _ _) _) _) _ _ _ | show wpAny _ _ (eval (Expr.ListComp _ _ _ _) _) _ _ _ | show LCg.CompSrc _ _ _ _ _ _ _ _ _ _ _ _ _ _ | show LCg.CompEnd _ _ _ _ _ _ _ _ _ _ _ _ _ _ | show LCt.CompSrcT _ _ _ _ _ _ _ _ _ _ _ _ _ _ _)); first | walk1 | (dsimp only; walk1)) | (leave1; try dsimp only) | fail))
    · exfalso
      simp_all
    · exact LCg.CompEnd.intro (by k_asm) (by k_asm) _ (fun p hp => hp) off trivial ⟨rfl, rfl⟩
  · intro ys nw2 hJ2
    obtain ⟨rfl, rfl⟩ := hJ2
    unfold LCg.FinE
    intro D2 h tk F1 N1 o1
    try k_fold
    (repeat' (first | (k_unfold; (try dsimp only)) | (k_end; wrow_close) | ((with_reducible show wpAny _ _ (execs (_ :: _) _) _ _ (Shared.mk _ _ _ (_ + 1) _)); (with_reducible refine toks_cut ?_); intro _) | ((((with_reducible show wpAny _ _ (subscriptTail _ _ _ _) _ _ _); (try dsimp only); (with_reducible show wpAny _ _ (subscriptTail _ _ (Value.ref _) (Value.int _ _)) _ _ _); k_here; k_dflt (refine' item_refM ?k1 ?k2 ?k4 ?k5 ?k6 ?_; (case k1 => k_asm); (case k2 => k_mem); (case k4 | k5 => omega); (case k6 => first | assumption | exact rfl)); k_whole))) | ((fail_if_success with_reducible (first | show wpAny _ _ (call (Value.ref _) _) _ _ _ | show wpAny _ _ (compareOp CmpOp.In _ _) _ _ _ | show wpAny _ _ (compareOp CmpOp.NotEq (Value.ref _) _) _ _ _ | show wpAny _ _ (call (Value.builtin "max") [Value.ref _]) _ _ _ | show wpAny _ _ (exec (Stmt.For _ _ _ _ _) _) _ _ _ | show wpAny _ _ (pyIter _) _ _ _ | show wpAny _ _ (exec (Stmt.Assign _ (Expr.ListComp _ _ _ _) _) _) _ _ _ | show wpAny _ _ (eval (Expr.ListComp _ _ _ _) _) _ _ _ | show LCg.CompSrc _ _ _ _ _ _ _ _ _ _ _ _ _ _ | show LCg.CompEnd _ _ _ _ _ _ _ _ _ _ _ _ _ _ | show LCt.CompSrcT _ _ _ _ _ _ _ _ _ _ _ _ _ _ _)); first | walk1 | (dsimp only; walk1)) | (leave1; try dsimp only) | fail))
    rename News _ _ _ _ => lN
    k_dflt (refine' lw_ne (ka := _) (kb := _) (vs := []) (us := []) (rs := []) lN (by k_mem) (by k_mem) .nil .nil (by ke_room) ?_)
    k_whole
    try dsimp only
    try k_fold
    (repeat' (first | (k_unfold; (try dsimp only)) | (k_end; wrow_close) | ((with_reducible show wpAny _ _ (execs (_ :: _) _) _ _ (Shared.mk _ _ _ (_ + 1) _)); (with_reducible refine toks_cut ?_); intro _) | ((((with_reducible show wpAny _ _ (subscriptTail _ _ _ _) _ _ _); (try dsimp only); (with_reducible show wpAny _ _ (subscriptTail _ _ (Value.ref _) (Value.int _ _)) _ _ _); k_here; k_dflt (refine' item_refM ?k1 ?k2 ?k4 ?k5 ?k6 ?_; (case k1 => k_asm); (case k2 => k_mem); (case k4 | k5 => omega); (case k6 => first | assumption | exact rfl)); k_whole))) | ((fail_if_success with_reducible (first | show wpAny _ _ (call (Value.ref _) _) _ _ _ | show wpAny _ _ (compareOp CmpOp.In _ _) _ _ _ | show wpAny _ _ (compareOp CmpOp.NotEq (Value.ref _) _) _ _ _ | show wpAny _ _ (call (Value.builtin "max") [Value.ref _]) _ _ _ | show wpAny _ _ (exec (Stmt.For _ _ _ _ _) _) _ _ _ | show wpAny _ _ (pyIter _) _ _ _ | show wpAny _ _ (exec (Stmt.Assign _ (Expr.ListComp _ _ _ _) _) _) _ _ _ | show wpAny _ _ (eval (Expr.ListComp _ _ _ _) _) _ _ _ | show LCg.CompSrc _ _ _ _ _ _ _ _ _ _ _ _ _ _ | show LCg.CompEnd _ _ _ _ _ _ _ _ _ _ _ _ _ _ | show LCt.CompSrcT _ _ _ _ _ _ _ _ _ _ _ _ _ _ _)); first | walk1 | (dsimp only; walk1)) | (leave1; try dsimp only) | fail))
    rename News _ _ _ _ => lN
    refine lp_end ⟨oT, oD⟩ (by k_asm) lN (fun p hp => i7_mem1 hp) (fun p hp => i7_mem2 hp) (by exact hoff2) (List.forall_mem_cons.mpr ⟨by with_unfolding_all rfl, List.forall_mem_cons.mpr ⟨by with_unfolding_all rfl, List.forall_mem_cons.mpr ⟨by with_unfolding_all rfl, List.forall_mem_cons.mpr ⟨by with_unfolding_all rfl, List.forall_mem_cons.mpr ⟨by with_unfolding_all rfl, List.forall_mem_cons.mpr ⟨by with_unfolding_all rfl, List.forall_mem_nil _⟩⟩⟩⟩⟩⟩) (by ((intro mq_z mq_h1 mq_h2 mq_h3; (try simp only [List.forall_mem_cons] at mq_h2); first | (simp [kstB, mq_h1, mq_h2, mq_h3]; done) | (simp [kstB, mq_h1, mq_h2]; done) | (simp [kstB, mq_h1]; done) | (simp_all [kstB]; done)))) ⟨⟨_, dto'⟩, ⟨_, ddu'⟩⟩
theorem bool_no {b : Bool} (h : (b != b) = true) : False := by simp at h
noncomputable def st6 : { P : Prop // Saved P → st4.1.2 } := ⟨_, fun hP8 => by
  set_option tactic.hygienic false in intro
  k_fill
  set_option tactic.hygienic false in intros
  have hA0 : 0 ≤ (0 + (i:Int) + 1).fmod 3 := Int.fmod_nonneg_of_pos _ (by decide)
  have hA1 : (0 + (i:Int) + 1).fmod 3 < 3 := Int.fmod_lt_of_pos _ (by decide)
  refine pl_name (((0 + (i:Int) + 1).fmod 3).toNat) ?_
  intro aN haN
  have hA3 : aN < 3 := by omega
  refine get3E (P := fun k v => Ws wW R9 v 10 3 1 (cL ([l0, l1, l2].getD k []))) hA3 hbl0 hbl1 hbl2 ?_
  intro bA hbA hBA
  refine get3E (P := fun k v => Ws wW R9 v 10 4 0 (cTt ([l0, l1, l2].getD k []))) hA3 htb0 htb1 htb2 ?_
  intro tA htA hTA
  obtain ⟨WA, hWA, ⟨tWA, eWA⟩⟩ := get3 (P := fun k v => ∃ t, v = Value.int (wo q ([l0, l1, l2].getD k [])) t) hA3 ⟨t0, rfl⟩ ⟨t1, rfl⟩ ⟨t2, rfl⟩
  subst eWA
  obtain ⟨qA, hqA, ⟨qaA, qvA, qkA, eqA, hqmA, hqiA⟩⟩ := get3 (P := fun k v => ∃ la vs kk, v = Value.ref la ∧ (la, listOf vs.toArray kk) ∈ S9 ∧ IntsAre vs (cols ([l0, l1, l2].getD k []))) hA3 ⟨_, _, _, rfl, hta0, hti0⟩ ⟨_, _, _, rfl, hta1, hti1⟩ ⟨_, _, _, rfl, hta2, hti2⟩
  subst eqA
  obtain ⟨qI, hqI, ⟨qaI, qvI, qkI, eqI, hqmI, hqiI⟩⟩ := get3 (P := fun k v => ∃ la vs kk, v = Value.ref la ∧ (la, listOf vs.toArray kk) ∈ S9 ∧ IntsAre vs (cols ([l0, l1, l2].getD k []))) hi ⟨_, _, _, rfl, hta0, hti0⟩ ⟨_, _, _, rfl, hta1, hti1⟩ ⟨_, _, _, rfl, hta2, hti2⟩
  subst eqI
  have hdA := lw_d3 hA3 hwd0 hwd1 hwd2
  refine pl_name ([l0, l1, l2].getD aN []) ?_
  intro lA elA
  rw [← elA] at hBA hTA hWA hqiA hdA
  rw [← eli] at hqiI
  rw [haN] at hbA htA hWA hqA
  replace hqI := (show [Value.ref ta0, .ref ta1, .ref ta2][(0 + (i : Int)).toNat]? = some (Value.ref qaI) by rw [show (0 + (i : Int)).toNat = i by omega]; exact hqI)
  replace hBA := hBA.mono hRS
  replace hTA := hTA.mono hRS
  have hw0A := pl_wnz hq1 hq2 hdA
  try k_fold
  (repeat' (first | (k_unfold; (try dsimp only)) | (k_end; wrow_close) | ((with_reducible show wpAny _ _ (execs (_ :: _) _) _ _ (Shared.mk _ _ _ (_ + 1) _)); (with_reducible refine toks_cut ?_); intro _) | ((((with_reducible show wpAny _ _ (subscriptTail _ _ _ _) _ _ _); (try dsimp only); (with_reducible show wpAny _ _ (subscriptTail _ _ (Value.ref _) (Value.int _ _)) _ _ _); k_here; k_dflt (refine' item_refM ?k1 ?k2 ?k4 ?k5 ?k6 ?_; (case k1 => k_asm); (case k2 => k_mem); (case k4 | k5 => omega); (case k6 => first | assumption | exact rfl)); k_whole))) | ((fail_if_success with_reducible (first | show wpAny _ _ (call (Value.ref _) _) _ _ _ | show wpAny _ _ (compareOp CmpOp.In _ _) _ _ _ | show wpAny _ _ (compareOp CmpOp.NotEq (Value.ref _) _) _ _ _ | show wpAny _ _ (call (Value.builtin "max") [Value.ref _]) _ _ _ | show wpAny _ _ (exec (Stmt.For _ _ _ _ _) _) _ _ _ | show wpAny _ _ (pyIter _) _ _ _ | show wpAny _ _ (exec (Stmt.Assign _ (Expr.ListComp _ _ _ _) _) _) _ _ _ | show wpAny _ _ (eval (Expr.ListComp _ _ _ _) _) _ _ _ | show LCg.CompSrc _ _ _ _ _ _ _ _ _ _ _ _ _ _ | show LCg.CompEnd _ _ _ _ _ _ _ _ _ _ _ _ _ _ | show LCt.CompSrcT _ _ _ _ _ _ _ _ _ _ _ _ _ _ _)); first | walk1 | (dsimp only; walk1)) | (leave1; try dsimp only) | fail))
  k_dflt (refine' ct_useB (less_ct _ _ _ _ _ _ 9 3 0 (cL li) 10 3 1 (cL lA)) _ (pl_next hq1 hq2 hdi hdA) ?kB ?kF ?kX ?kN ?kT ?kk ?kP ?kd ?ku ?_; (case kN => k_asm); (case kP => exact ⟨Ws.mono hli (fun p hp => by k_mem), Ws.mono hBA (fun p hp => by k_mem)⟩); (((case kB | kF | kX => k_asm); (try (case kN => k_asm)); (case kT => k_asm); (case kk => first | exact rfl | assumption); (case kd | ku => (with_unfolding_all decide)); k_whole)))
  intro h10 tk10 F10 N10
  try dsimp only
  try k_sweep
  try k_fold
  (repeat' (first | (k_unfold; (try dsimp only)) | (k_end; wrow_close) | ((with_reducible show wpAny _ _ (execs (_ :: _) _) _ _ (Shared.mk _ _ _ (_ + 1) _)); (with_reducible refine toks_cut ?_); intro _) | ((((with_reducible show wpAny _ _ (subscriptTail _ _ _ _) _ _ _); (try dsimp only); (with_reducible show wpAny _ _ (subscriptTail _ _ (Value.ref _) (Value.int _ _)) _ _ _); k_here; k_dflt (refine' item_refM ?k1 ?k2 ?k4 ?k5 ?k6 ?_; (case k1 => k_asm); (case k2 => k_mem); (case k4 | k5 => omega); (case k6 => first | assumption | exact rfl)); k_whole))) | ((fail_if_success with_reducible (first | show wpAny _ _ (call (Value.ref _) _) _ _ _ | show wpAny _ _ (compareOp CmpOp.In _ _) _ _ _ | show wpAny _ _ (compareOp CmpOp.NotEq (Value.ref _) _) _ _ _ | show wpAny _ _ (call (Value.builtin "max") [Value.ref _]) _ _ _ | show wpAny _ _ (exec (Stmt.For _ _ _ _ _) _) _ _ _ | show wpAny _ _ (pyIter _) _ _ _ | show wpAny _ _ (exec (Stmt.Assign _ (Expr.ListComp _ _ _ _) _) _) _ _ _ | show wpAny _ _ (eval (Expr.ListComp _ _ _ _) _) _ _ _ | show LCg.CompSrc _ _ _ _ _ _ _ _ _ _ _ _ _ _ | show LCg.CompEnd _ _ _ _ _ _ _ _ _ _ _ _ _ _ | show LCt.CompSrcT _ _ _ _ _ _ _ _ _ _ _ _ _ _ _)); first | walk1 | (dsimp only; walk1)) | (leave1; try dsimp only) | fail))
  k_dflt (refine' ct_useI (mod_ct _ _ _ _ _ _ _ _ hw0A) ?kB ?kF ?kX ?kN ?kT ?kk ?kP ?kd ?ku ?_; (case kN => k_asm); (case kP => exact trivial); (((case kB | kF | kX => k_asm); (try (case kN => k_asm)); (case kT => k_asm); (case kk => first | exact rfl | assumption); (case kd | ku => (with_unfolding_all decide)); k_whole)))
  intro tm14 h14 tk14 F14 N14
  try dsimp only
  try k_sweep
  try k_fold
  (repeat' (first | (k_unfold; (try dsimp only)) | (k_end; wrow_close) | ((with_reducible show wpAny _ _ (execs (_ :: _) _) _ _ (Shared.mk _ _ _ (_ + 1) _)); (with_reducible refine toks_cut ?_); intro _) | ((((with_reducible show wpAny _ _ (subscriptTail _ _ _ _) _ _ _); (try dsimp only); (with_reducible show wpAny _ _ (subscriptTail _ _ (Value.ref _) (Value.int _ _)) _ _ _); k_here; k_dflt (refine' item_refM ?k1 ?k2 ?k4 ?k5 ?k6 ?_; (case k1 => k_asm); (case k2 => k_mem); (case k4 | k5 => omega); (case k6 => first | assumption | exact rfl)); k_whole))) | ((fail_if_success with_reducible (first | show wpAny _ _ (call (Value.ref _) _) _ _ _ | show wpAny _ _ (compareOp CmpOp.In _ _) _ _ _ | show wpAny _ _ (compareOp CmpOp.NotEq (Value.ref _) _) _ _ _ | show wpAny _ _ (call (Value.builtin "max") [Value.ref _]) _ _ _ | show wpAny _ _ (exec (Stmt.For _ _ _ _ _) _) _ _ _ | show wpAny _ _ (pyIter _) _ _ _ | show wpAny _ _ (exec (Stmt.Assign _ (Expr.ListComp _ _ _ _) _) _) _ _ _ | show wpAny _ _ (eval (Expr.ListComp _ _ _ _) _) _ _ _ | show LCg.CompSrc _ _ _ _ _ _ _ _ _ _ _ _ _ _ | show LCg.CompEnd _ _ _ _ _ _ _ _ _ _ _ _ _ _ | show LCt.CompSrcT _ _ _ _ _ _ _ _ _ _ _ _ _ _ _)); first | walk1 | (dsimp only; walk1)) | (leave1; try dsimp only) | fail))
  rename (Obj.data _ = Data.cell (some (Value.int ((0 + (i : Int) + 1).fmod 3) _))) => dA
  refine lw_cE dA ?_
  intro oA eA dA'
  subst eA
  clear dA
  rename_i _ _ v8z1 v8z2 v8z3 _ _ _
  revert wW v1z1 s₁ v1z2 v1z3 v1z4 v1z5 v1z6 v1z7 v1z8 v1z9 v1z10 v1z11 v1z12 v1z13 v1z14 v1z15 v1z16 v1z17 v1z18 v1z19 v1z20 v1z21 sa svs sns v1z22 v1z23 v1z24 v1z25 v1z26 v1z27 v1z28 v1z29 oq q tq o2 o3 o4 o5 o6 o7 h1 v1z30 wa ww0 ww1 ww2 kw xs R1 l0 l1 l2 v1z31 v1z32 Z g1 v1z33 t0 t1 t2 D v1z34 v1z35 R2 v1z36 v1z37 v1z38 fa fvs fk R3 v1z39 v1z40 of Z3 g3 v1z41 ta0 ta1 ta2 tv0 tv1 tv2 tk0 tk1 v4z1 Dt v1z42 v1z43 R4 v1z44 ot Z4 g4 v1z45 lev0 lev1 lev2 Dle v1z46 v1z47 R5 Z5 g5 v1z48 blv0 blv1 blv2 Dbl v1z49 v1z50 R6 Z6 g6 tw tbv0 tbv1 tbv2 Dtb h v3z1 R7 v1z51 v1z52 v1z53 R8 v1z54 v1z55 v1z56 v1z57 v1z58 v1z59 v1z60 v1z61 v1z62 sev tl3 v4z2 v4z3 R9 v3z2 v3z3 v3z4 v3z5 v3z6 v3z7 v3z8 v3z9 v3z10 c i t' u h' tk' own vm vt vd va wv v3z11 v8z1 li bx bdx btp braw bt1 bt2 bt3 bt4 bt5 bt6 bt7 bt8 lx ldx ltp lraw lt1 lt2 lt3 lt4 lt5 lt6 lt7 lt8 xx_ xdx_ xtp_ xraw_ xt1_ xt2_ xt3_ xt4_ xt5_ xt6_ xt7_ xt8_ to h2 tk2 tkc tc tW v4z4 v4z5 tm h3 tk3 h4 tk4 h5 tk5 oM v6z1 v6z2 v6z3 v6z4 v6z5 S9 e6 u6 h6 tk6 vt2 vd2 aN bA tA tWA qaA qvA qkA qaI qvI qkI lA v8z2 v8z3 h10 tk10 tm14 h14 tk14 tk oA
  exact hP8.out⟩
theorem hi_yes {f g : Int → Int} {k : Nat} {ys : List Value} {t : Tok} (h : IntsAre ys (hiR f g k)) (hc : 3 * (1 + (k : Int)) < if g (1 + (k : Int)) > f (1 + (k : Int)) then g (1 + (k : Int)) else f (1 + (k : Int))) : IntsAre (ys ++ [.int (1 + (k : Int)) t]) (hiR f g (k + 1)) := by
  show IntsAre _ (hiR f g k ++ if (if g (1 + (k : Int)) > f (1 + (k : Int)) then g (1 + (k : Int)) else f (1 + (k : Int))) > 3 * (1 + (k : Int)) then [1 + (k : Int)] else [])
  have e : (if g (1 + (k : Int)) > f (1 + (k : Int)) then g (1 + (k : Int)) else f (1 + (k : Int))) > 3 * (1 + (k : Int)) := hc
  rw [if_pos e]
  exact IntsAre.append h (.cons _ _ .nil)
theorem hi_no {f g : Int → Int} {k : Nat} {ys : List Value} (h : IntsAre ys (hiR f g k)) (hc : ¬ 3 * (1 + (k : Int)) < if g (1 + (k : Int)) > f (1 + (k : Int)) then g (1 + (k : Int)) else f (1 + (k : Int))) : IntsAre ys (hiR f g (k + 1)) := by
  show IntsAre _ (hiR f g k ++ if (if g (1 + (k : Int)) > f (1 + (k : Int)) then g (1 + (k : Int)) else f (1 + (k : Int))) > 3 * (1 + (k : Int)) then [1 + (k : Int)] else [])
  have e : ¬ (if g (1 + (k : Int)) > f (1 + (k : Int)) then g (1 + (k : Int)) else f (1 + (k : Int))) > 3 * (1 + (k : Int)) := hc
  rw [if_neg e, List.append_nil]
  exact h
noncomputable def st8 : { P : Prop // Saved P → st6.1 } := ⟨_, fun hP9 => by
  set_option tactic.hygienic false in intro
  k_fill
  set_option tactic.hygienic false in intros
  obtain ⟨nh, hn2, hn7, hnp, hnM, ew1, ew2⟩ := pl_high hdi hdA
  have hcI := cols_len li
  have hcA := cols_len lA
  k_dflt (refine LCt.ListComp_T (F₀ := by k_asm) (by with_unfolding_all rfl) (by decide) (by rfl) (by decide) (by rfl) ?_)
  (repeat' (first | (k_unfold; (try dsimp only)) | (k_end; wrow_close) | ((with_reducible show wpAny _ _ (execs (_ :: _) _) _ _ (Shared.mk _ _ _ (_ + 1) _)); (with_reducible refine toks_cut ?_); intro _) | ((((with_reducible show wpAny _ _ (subscriptTail _ _ _ _) _ _ _); (try dsimp only); (with_reducible show wpAny _ _ (subscriptTail _ _ (Value.ref _) (Value.int _ _)) _ _ _); k_here; k_dflt (refine' item_refM ?k1 ?k2 ?k4 ?k5 ?k6 ?_; (case k1 => k_asm); (case k2 => k_mem); (case k4 | k5 => omega); (case k6 => first | assumption | exact rfl)); k_whole))) | ((((with_reducible show wpAny _ _ (subscriptTail _ _ _ _) _ _ _); (try dsimp only); (with_reducible show wpAny _ _ (subscriptTail _ _ (Value.ref _) (Value.int _ _)) _ _ _); k_here; k_dflt (refine' item_listM ?k1 ?k2 ?k3 ?k4 ?k5 ?k6 ?_; (case k1 => k_asm); (case k2 => k_mem); (case k3 => assumption); (case k4 | k5 | k6 => omega)); k_whole; intro mq_tp))) | ((fail_if_success with_reducible (first | show wpAny _ _ (call (Value.ref _) _) _ _ _ | show wpAny _ _ (compareOp CmpOp.In _ _) _ _ _ | show wpAny _ _ (compareOp CmpOp.NotEq (Value.ref _) _) _ _ _ | show wpAny _ _ (call (Value.builtin "max") [Value.ref _]) _ _ _ | show wpAny _ _ (exec (Stmt.For _ _ _ _ _) _) _ _ _ | show wpAny _ _ (pyIter _) _ _ _ | show wpAny _ _ (exec (Stmt.Assign _ (Expr.ListComp _ _ _ _) _) _) _ _ _ | show wpAny _ _ (eval (Expr.ListComp _ _ _ _) _) _ _ _ | show LCg.CompSrc _ _ _ _ _ _ _ _ _ _ _ _ _ _ | show LCg.CompEnd _ _ _ _ _ _ _ _ _ _ _ _ _ _ | show LCt.CompSrcT _ _ _ _ _ _ _ _ _ _ _ _ _ _ _)); first | walk1 | (dsimp only; walk1)) | (leave1; try dsimp only) | fail))
  rename Fr _ _ _ _ => lF
  rename News _ _ _ _ => lN
  rename IsRange _ _ _ _ _ _ _ _ => hR
  with_unfolding_all refine LCt.CompSrcT.range (n := 7) (by rfl) lF lN hR (small_of (by decide) (by decide) (by decide) (by decide)) (rangeSize_nat 1 8) (by decide) ?_
  intro g2
  refine crT_inv (fun j ys nw2 => nw2 = _ ∧ IntsAre ys (hiR (colA li) (colA lA) j)) ⟨rfl, .nil⟩ ?_ ?_
  · intro i4 v I oI C oC D2 m₂ ys nw2 h2 tk2 E' hj4 hv hJ2 hC hx F2 N2 off ne
    obtain ⟨rfl, hJ2⟩ := hJ2
    obtain ⟨tv, rfl⟩ := hv
    try k_fold
    (repeat' (first | (k_unfold; (try dsimp only)) | (k_end; wrow_close) | ((with_reducible show wpAny _ _ (execs (_ :: _) _) _ _ (Shared.mk _ _ _ (_ + 1) _)); (with_reducible refine toks_cut ?_); intro _) | ((((with_reducible show wpAny _ _ (subscriptTail _ _ _ _) _ _ _); (try dsimp only); (with_reducible show wpAny _ _ (subscriptTail _ _ (Value.ref _) (Value.int _ _)) _ _ _); k_here; k_dflt (refine' item_refM ?k1 ?k2 ?k4 ?k5 ?k6 ?_; (case k1 => k_asm); (case k2 => k_mem); (case k4 | k5 => omega); (case k6 => first | assumption | exact rfl)); k_whole))) | ((((with_reducible show wpAny _ _ (subscriptTail _ _ _ _) _ _ _); (try dsimp only); (with_reducible show wpAny _ _ (subscriptTail _ _ (Value.ref _) (Value.int _ _)) _ _ _); k_here; k_dflt (refine' item_listM ?k1 ?k2 ?k3 ?k4 ?k5 ?k6 ?_; (case k1 => k_asm); (case k2 => k_mem); (case k3 => assumption); (case k4 | k5 | k6 => omega)); k_whole; intro mq_tp))) | ((fail_if_success with_reducible (first | show wpAny _ _ (call (Value.ref _) _) _ _ _ | show wpAny _ _ (compareOp CmpOp.In _ _) _ _ _ | show wpAny _ _ (compareOp CmpOp.NotEq (Value.ref _) _) _ _ _ | show wpAny _ _ (call (Value.builtin "max") [Value.ref _]) _ _ _ | show wpAny _ _ (exec (Stmt.For _ _ _ _ _) _) _ _ _ | show wpAny _ _ (pyIter _) _ _ _ | show wpAny _ _ (exec (Stmt.Assign _ (Expr.ListComp _ _ _ _) _) _) _ _ _ | show wpAny _ _ (eval (Expr.ListComp _ _ _ _) _) _ _ _ | show LCg.CompSrc _ _ _ _ _ _ _ _ _ _ _ _ _ _ | show LCg.CompEnd _ _ _ _ _ _ _ _ _ _ _ _ _ _ | show LCt.CompSrcT _ _ _ _ _ _ _ _ _ _ _ _ _ _ _)); first | walk1 | (dsimp only; walk1)) | (leave1; try dsimp only) | fail))
    · rename (3 * (1 + (i4 : Int)) < _) => hgt
      exact LCg.CompEnd.intro (by k_asm) (by k_asm) _ (fun p hp => hp) off trivial ⟨rfl, hi_yes hJ2 hgt⟩
    · refine LCg.CompEnd.intro (by k_asm) (by k_asm) _ (fun p hp => hp) off trivial ⟨rfl, hi_no hJ2 ?_⟩
      first | assumption | (unfold colA; omega)
  · intro ys nw2 hJ2
    obtain ⟨rfl, hJ2⟩ := hJ2
    unfold LCg.FinE
    intro D2 h tk F1 N1 o1
    try k_fold
    (repeat' (first | (k_unfold; (try dsimp only)) | (k_end; wrow_close) | ((with_reducible show wpAny _ _ (execs (_ :: _) _) _ _ (Shared.mk _ _ _ (_ + 1) _)); (with_reducible refine toks_cut ?_); intro _) | ((((with_reducible show wpAny _ _ (subscriptTail _ _ _ _) _ _ _); (try dsimp only); (with_reducible show wpAny _ _ (subscriptTail _ _ (Value.ref _) (Value.int _ _)) _ _ _); k_here; k_dflt (refine' item_refM ?k1 ?k2 ?k4 ?k5 ?k6 ?_; (case k1 => k_asm); (case k2 => k_mem); (case k4 | k5 => omega); (case k6 => first | assumption | exact rfl)); k_whole))) | ((((with_reducible show wpAny _ _ (subscriptTail _ _ _ _) _ _ _); (try dsimp only); (with_reducible show wpAny _ _ (subscriptTail _ _ (Value.ref _) (Value.int _ _)) _ _ _); k_here; k_dflt (refine' item_listM ?k1 ?k2 ?k3 ?k4 ?k5 ?k6 ?_; (case k1 => k_asm); (case k2 => k_mem); (case k3 => assumption); (case k4 | k5 | k6 => omega)); k_whole; intro mq_tp))) | ((fail_if_success with_reducible (first | show wpAny _ _ (call (Value.ref _) _) _ _ _ | show wpAny _ _ (compareOp CmpOp.In _ _) _ _ _ | show wpAny _ _ (compareOp CmpOp.NotEq (Value.ref _) _) _ _ _ | show wpAny _ _ (call (Value.builtin "max") [Value.ref _]) _ _ _ | show wpAny _ _ (exec (Stmt.For _ _ _ _ _) _) _ _ _ | show wpAny _ _ (pyIter _) _ _ _ | show wpAny _ _ (exec (Stmt.Assign _ (Expr.ListComp _ _ _ _) _) _) _ _ _ | show wpAny _ _ (eval (Expr.ListComp _ _ _ _) _) _ _ _ | show LCg.CompSrc _ _ _ _ _ _ _ _ _ _ _ _ _ _ | show LCg.CompEnd _ _ _ _ _ _ _ _ _ _ _ _ _ _ | show LCt.CompSrcT _ _ _ _ _ _ _ _ _ _ _ _ _ _ _)); first | walk1 | (dsimp only; walk1)) | (leave1; try dsimp only) | fail))
    rename News _ _ _ _ => lN
    k_dflt (refine' kso_max (ns := hiR (colA li) (colA lA) 7) (vs := ys) ?k1 lN (News.isList lN (by k_mem)) hJ2 hnp ?k6 ?_; (case k1 => k_asm); (case k6 => exact rfl))
    k_whole
    intro hM M tM tkM F9 N9 hM1 hM2
    have hMn := hnM M hM1 hM2
    try dsimp only
    try k_sweep
    try k_fold
    (repeat' (first | (k_unfold; (try dsimp only)) | (k_end; wrow_close) | ((with_reducible show wpAny _ _ (execs (_ :: _) _) _ _ (Shared.mk _ _ _ (_ + 1) _)); (with_reducible refine toks_cut ?_); intro _) | ((((with_reducible show wpAny _ _ (subscriptTail _ _ _ _) _ _ _); (try dsimp only); (with_reducible show wpAny _ _ (subscriptTail _ _ (Value.ref _) (Value.int _ _)) _ _ _); k_here; k_dflt (refine' item_refM ?k1 ?k2 ?k4 ?k5 ?k6 ?_; (case k1 => k_asm); (case k2 => k_mem); (case k4 | k5 => omega); (case k6 => first | assumption | exact rfl)); k_whole))) | ((((with_reducible show wpAny _ _ (subscriptTail _ _ _ _) _ _ _); (try dsimp only); (with_reducible show wpAny _ _ (subscriptTail _ _ (Value.ref _) (Value.int _ _)) _ _ _); k_here; k_dflt (refine' item_listM ?k1 ?k2 ?k3 ?k4 ?k5 ?k6 ?_; (case k1 => k_asm); (case k2 => k_mem); (case k3 => assumption); (case k4 | k5 | k6 => omega)); k_whole; intro mq_tp))) | ((fail_if_success with_reducible (first | show wpAny _ _ (call (Value.ref _) _) _ _ _ | show wpAny _ _ (compareOp CmpOp.In _ _) _ _ _ | show wpAny _ _ (compareOp CmpOp.NotEq (Value.ref _) _) _ _ _ | show wpAny _ _ (call (Value.builtin "max") [Value.ref _]) _ _ _ | show wpAny _ _ (exec (Stmt.For _ _ _ _ _) _) _ _ _ | show wpAny _ _ (pyIter _) _ _ _ | show wpAny _ _ (exec (Stmt.Assign _ (Expr.ListComp _ _ _ _) _) _) _ _ _ | show wpAny _ _ (eval (Expr.ListComp _ _ _ _) _) _ _ _ | show LCg.CompSrc _ _ _ _ _ _ _ _ _ _ _ _ _ _ | show LCg.CompEnd _ _ _ _ _ _ _ _ _ _ _ _ _ _ | show LCt.CompSrcT _ _ _ _ _ _ _ _ _ _ _ _ _ _ _)); first | walk1 | (dsimp only; walk1)) | (leave1; try dsimp only) | fail))
    rename_i _ v9z1 _ _ _ _ v9z2 v9z3 v9z4 v9z5 v9z6 v9z7 _ v9z8 _ _ v9z9
    revert wW v1z1 s₁ v1z2 v1z3 v1z4 v1z5 v1z6 v1z7 v1z8 v1z9 v1z10 v1z11 v1z12 v1z13 v1z14 v1z15 v1z16 v1z17 v1z18 v1z19 v1z20 v1z21 sa svs sns v1z22 v1z23 v1z24 v1z25 v1z26 v1z27 v1z28 v1z29 oq q tq o2 o3 o4 o5 o6 o7 h1 v1z30 wa ww0 ww1 ww2 kw xs R1 l0 l1 l2 v1z31 v1z32 Z g1 v1z33 t0 t1 t2 D v1z34 v1z35 R2 v1z36 v1z37 v1z38 fa fvs fk R3 v1z39 v1z40 of Z3 g3 v1z41 ta0 ta1 ta2 tv0 tv1 tv2 tk0 tk1 v4z1 Dt v1z42 v1z43 R4 v1z44 ot Z4 g4 v1z45 lev0 lev1 lev2 Dle v1z46 v1z47 R5 Z5 g5 v1z48 blv0 blv1 blv2 Dbl v1z49 v1z50 R6 Z6 g6 tw tbv0 tbv1 tbv2 Dtb v9z1 v3z1 R7 v1z51 v1z52 v1z53 R8 v1z54 v1z55 v1z56 v1z57 v1z58 v1z59 v1z60 v1z61 v1z62 sev tl3 v4z2 v4z3 R9 v3z2 v3z3 v3z4 v3z5 v3z6 v3z7 v3z8 v3z9 v3z10 c i t' u h' tk' own vm vt vd va wv v3z11 v8z1 li bx bdx btp braw bt1 bt2 bt3 bt4 bt5 bt6 bt7 bt8 lx ldx ltp lraw lt1 lt2 lt3 lt4 lt5 lt6 lt7 lt8 xx_ xdx_ xtp_ xraw_ xt1_ xt2_ xt3_ xt4_ xt5_ xt6_ xt7_ xt8_ to h2 tk2 tkc tc tW v4z4 v4z5 tm h3 tk3 h4 tk4 h5 tk5 oM v6z1 v6z2 v6z3 v6z4 v6z5 S9 e6 u6 h6 tk6 vt2 vd2 aN bA tA tWA qaA qvA qkA qaI qvI qkI lA v8z2 v8z3 h10 tk10 tm14 h14 tk14 v9z2 oA nh v9z3 v9z4 v9z5 v9z6 v9z7 g2 ys D2 h tk hM M tM tkM v9z8 v9z9
    exact hP9.out⟩
theorem news_abs {h₀ h : Heap} {L : Addr} {Z : Led} (N : News h₀ L h Z) : ∃ Z' : Led, Z' = Z ∧ News h₀ L h Z' ∧ (∀ p ∈ Z, p ∈ Z') := ⟨Z, rfl, N, fun _ h => h⟩
theorem rows_next {f g : Int → Int} {k n : Nat} {tw : Led} {ys : List Value} {a : Addr} {t1 t2 t3 : Tok} (h : Rows3 tw ys (wit yesB f g k)) : Rows3 ((a, tupOb #[.int (1 + (k : Int)) t1, .int (f (1 + (k : Int))) t2, .int (g (1 + (k : Int))) t3] n) :: tw) (ys ++ [.ref a]) (wit yesB f g (k + 1)) :=
  (h.mono fun _ hp => .tail _ hp).snoc (.head _)
theorem rows_len {Z : Led} {f g : Int → Int} {n : Nat} {ys : List Value} (h : Rows3 Z ys (wit yesB f g n)) : ys.length = n := by rw [h.length, wit_yes_len]
noncomputable def st9 : { P : Prop // Saved P → st8.1 } := ⟨_, fun hP10 => by
  set_option tactic.hygienic false in intro
  k_fill
  set_option tactic.hygienic false in intros
  rename News _ _ _ ((D2, _) :: _) => lN
  refine news_cut lN ?_
  intro Z lN hZ
  have hz7 : (s₁.heap.objs.size + 1 + 1 + 1 + 1 + 1 + 1 + 1, oA) ∈ Z := hZ _ (by k_mem)
  have hz4 : (s₁.heap.objs.size + 1 + 1 + 1 + 1, oM) ∈ Z := hZ _ (by k_mem)
  have hz3 : (s₁.heap.objs.size + 1 + 1 + 1, ot) ∈ Z := hZ _ (by k_mem)
  have hzm : (Dt, LCg.lst [Value.ref ta0, Value.ref ta1, Value.ref ta2]) ∈ Z := hZ _ (by k_mem)
  have hzI : (qaI, listOf qvI.toArray qkI) ∈ Z := hZ _ (by k_mem)
  have hzA : (qaA, listOf qvA.toArray qkA) ∈ Z := hZ _ (by k_mem)
  k_dflt (refine LCg.Assign_ListComp_U (F₀ := by k_asm) (by rfl) (by with_unfolding_all rfl) (by with_unfolding_all rfl) (by decide) (by rfl) (by decide) (by rfl) (by rfl) (by rfl) ?_)
  (repeat' (first | (k_unfold; (try dsimp only)) | (k_end; wrow_close) | ((with_reducible show wpAny _ _ (execs (_ :: _) _) _ _ (Shared.mk _ _ _ (_ + 1) _)); (with_reducible refine toks_cut ?_); intro _) | ((((with_reducible show wpAny _ _ (subscriptTail _ _ _ _) _ _ _); (try dsimp only); (with_reducible show wpAny _ _ (subscriptTail _ _ (Value.ref _) (Value.int _ _)) _ _ _); k_here; k_dflt (refine' item_refM ?k1 ?k2 ?k4 ?k5 ?k6 ?_; (case k1 => k_asm); (case k2 => k_mem); (case k4 | k5 => omega); (case k6 => first | assumption | exact rfl)); k_whole))) | ((((with_reducible show wpAny _ _ (subscriptTail _ _ _ _) _ _ _); (try dsimp only); (with_reducible show wpAny _ _ (subscriptTail _ _ (Value.ref _) (Value.int _ _)) _ _ _); k_here; k_dflt (refine' item_listM ?k1 ?k2 ?k3 ?k4 ?k5 ?k6 ?_; (case k1 => k_asm); (case k2 => k_mem); (case k3 => assumption); (case k4 | k5 | k6 => omega)); k_whole; intro mq_tp))) | ((fail_if_success with_reducible (first | show wpAny _ _ (call (Value.ref _) _) _ _ _ | show wpAny _ _ (compareOp CmpOp.In _ _) _ _ _ | show wpAny _ _ (compareOp CmpOp.NotEq (Value.ref _) _) _ _ _ | show wpAny _ _ (call (Value.builtin "max") [Value.ref _]) _ _ _ | show wpAny _ _ (exec (Stmt.For _ _ _ _ _) _) _ _ _ | show wpAny _ _ (pyIter _) _ _ _ | show wpAny _ _ (exec (Stmt.Assign _ (Expr.ListComp _ _ _ _) _) _) _ _ _ | show wpAny _ _ (eval (Expr.ListComp _ _ _ _) _) _ _ _ | show LCg.CompSrc _ _ _ _ _ _ _ _ _ _ _ _ _ _ | show LCg.CompEnd _ _ _ _ _ _ _ _ _ _ _ _ _ _ | show LCt.CompSrcT _ _ _ _ _ _ _ _ _ _ _ _ _ _ _)); first | walk1 | (dsimp only; walk1)) | (leave1; try dsimp only) | fail))
  rename Fr _ _ _ _ => lF
  rename News _ _ _ _ => lN
  rename IsRange _ _ _ _ _ _ _ _ => hR
  with_unfolding_all refine LCg.CompSrc.range (n := nh) (by rfl) lF lN hR (small_of (by omega) (by omega) (by omega) (by omega)) (by rw [rangeSize_nat]; omega) (by rw [sizeLine_eq]; omega) ?_
  intro g2
  refine cr_inv (fun j ys nw2 => ∃ tw, nw2 = tw ++ Z ∧ Rows3 tw ys (wit yesB (colA li) (colA lA) j)) ⟨[], rfl, .nil⟩ ?_ ?_
  · intro i4 v I oI C oC D3 m₂ ys nw2 h2 tk2 E' hi4 hv hJ2 hC hx F2 N2 off ne
    obtain ⟨tw, rfl, hJ2⟩ := hJ2
    obtain ⟨tv, rfl⟩ := hv
    try k_fold
    (repeat' (first | (k_unfold; (try dsimp only)) | (k_end; wrow_close) | ((with_reducible show wpAny _ _ (execs (_ :: _) _) _ _ (Shared.mk _ _ _ (_ + 1) _)); (with_reducible refine toks_cut ?_); intro _) | ((((with_reducible show wpAny _ _ (subscriptTail _ _ _ _) _ _ _); (try dsimp only); (with_reducible show wpAny _ _ (subscriptTail _ _ (Value.ref _) (Value.int _ _)) _ _ _); k_here; k_dflt (refine' item_refM ?k1 ?k2 ?k4 ?k5 ?k6 ?_; (case k1 => k_asm); (case k2 => k_mem); (case k4 | k5 => omega); (case k6 => first | assumption | exact rfl)); k_whole))) | ((((with_reducible show wpAny _ _ (subscriptTail _ _ _ _) _ _ _); (try dsimp only); (with_reducible show wpAny _ _ (subscriptTail _ _ (Value.ref _) (Value.int _ _)) _ _ _); k_here; k_dflt (refine' item_listM ?k1 ?k2 ?k3 ?k4 ?k5 ?k6 ?_; (case k1 => k_asm); (case k2 => k_mem); (case k3 => assumption); (case k4 | k5 | k6 => omega)); k_whole; intro mq_tp))) | ((fail_if_success with_reducible (first | show wpAny _ _ (call (Value.ref _) _) _ _ _ | show wpAny _ _ (compareOp CmpOp.In _ _) _ _ _ | show wpAny _ _ (compareOp CmpOp.NotEq (Value.ref _) _) _ _ _ | show wpAny _ _ (call (Value.builtin "max") [Value.ref _]) _ _ _ | show wpAny _ _ (exec (Stmt.For _ _ _ _ _) _) _ _ _ | show wpAny _ _ (pyIter _) _ _ _ | show wpAny _ _ (exec (Stmt.Assign _ (Expr.ListComp _ _ _ _) _) _) _ _ _ | show wpAny _ _ (eval (Expr.ListComp _ _ _ _) _) _ _ _ | show LCg.CompSrc _ _ _ _ _ _ _ _ _ _ _ _ _ _ | show LCg.CompEnd _ _ _ _ _ _ _ _ _ _ _ _ _ _ | show LCt.CompSrcT _ _ _ _ _ _ _ _ _ _ _ _ _ _ _)); first | walk1 | (dsimp only; walk1)) | (leave1; try dsimp only) | fail))
    rename (I < _ ∧ C < _ ∧ D3 < _ ∧ AllLt _ _) => hl
    exact LCg.CompEnd.intro (by k_asm) (by assumption) _ (fun p hp => wd_mem hp) ⟨⟨Nat.ne_of_gt hl.1, Nat.ne_of_gt hl.2.1, Nat.ne_of_gt hl.2.2.1⟩, off⟩ trivial ⟨_ :: tw, rfl, rows_next hJ2⟩
  · intro ysP nwP hJP
    obtain ⟨twP, rfl, hJP⟩ := hJP
    unfold LCg.FinA
    intro Dp h tk F1 N1 o1
    clear o1
    refine news_cut N1 ?_
    intro YL lN hY
    clear N1
    have hpY : (Dp, LCg.lst ysP) ∈ YL := hY _ (.head _)
    have hZY : ∀ p ∈ Z, p ∈ YL := fun p hp => hY p (.tail _ (List.mem_append.mpr (.inr hp)))
    replace hJP := hJP.mono (fun p hp => hY p (.tail _ (List.mem_append.mpr (.inl hp))))
    clear hY
    have hall : ∀ p ∈ (s₁.heap.objs.size + 1 + 1 + 1 + 1 + 1 + 1 + 1, oA) :: (s₁.heap.objs.size + 1 + 1 + 1 + 1 + 1 + 1, e6.od) :: (s₁.heap.objs.size + 1 + 1 + 1 + 1 + 1, e6.ot) :: (s₁.heap.objs.size + 1 + 1 + 1 + 1, oM) :: (s₁.heap.objs.size + 1 + 1 + 1, ot) :: (s₁.heap.objs.size + 1 + 1, of) :: (s₁.heap.objs.size + 1, oq) :: S9, p ∈ YL := fun p hp => hZY p (hZ p (.tail _ hp))
    have hSY : ∀ p ∈ S9, p ∈ YL := fun p hp => hall p (by k_mem)
    clear hZ hz3 hzm hzI hzA
    replace hz4 := hZY _ hz4
    replace hz7 := hZY _ hz7
    clear hZY
    replace lobj := hSY _ lobj
    replace ldct := hSY _ ldct
    replace xobj := hSY _ xobj
    replace xdct := hSY _ xdct
    replace hDle := hSY _ hDle
    replace hDbl := hSY _ hDbl
    replace hDtb := hSY _ hDtb
    replace hli := hli.mono hSY
    replace hbi := hbi.mono hSY
    replace hBA := hBA.mono hSY
    replace hTA := hTA.mono hSY
    try k_fold
    (repeat' (first | (k_unfold; (try dsimp only)) | (k_end; wrow_close) | ((with_reducible show wpAny _ _ (execs (_ :: _) _) _ _ (Shared.mk _ _ _ (_ + 1) _)); (with_reducible refine toks_cut ?_); intro _) | ((((with_reducible show wpAny _ _ (subscriptTail _ _ _ _) _ _ _); (try dsimp only); (with_reducible show wpAny _ _ (subscriptTail _ _ (Value.ref _) (Value.int _ _)) _ _ _); k_here; k_dflt (refine' item_refM ?k1 ?k2 ?k4 ?k5 ?k6 ?_; (case k1 => k_asm); (case k2 => k_mem); (case k4 | k5 => omega); (case k6 => first | assumption | exact rfl)); k_whole))) | ((((with_reducible show wpAny _ _ (subscriptTail _ _ _ _) _ _ _); (try dsimp only); (with_reducible show wpAny _ _ (subscriptTail _ _ (Value.ref _) (Value.int _ _)) _ _ _); k_here; k_dflt (refine' item_listM ?k1 ?k2 ?k3 ?k4 ?k5 ?k6 ?_; (case k1 => k_asm); (case k2 => k_mem); (case k3 => assumption); (case k4 | k5 | k6 => omega)); k_whole; intro mq_tp))) | ((fail_if_success with_reducible (first | show wpAny _ _ (call (Value.ref _) _) _ _ _ | show wpAny _ _ (compareOp CmpOp.In _ _) _ _ _ | show wpAny _ _ (compareOp CmpOp.NotEq (Value.ref _) _) _ _ _ | show wpAny _ _ (call (Value.builtin "max") [Value.ref _]) _ _ _ | show wpAny _ _ (exec (Stmt.For _ _ _ _ _) _) _ _ _ | show wpAny _ _ (pyIter _) _ _ _ | show wpAny _ _ (exec (Stmt.Assign _ (Expr.ListComp _ _ _ _) _) _) _ _ _ | show wpAny _ _ (eval (Expr.ListComp _ _ _ _) _) _ _ _ | show LCg.CompSrc _ _ _ _ _ _ _ _ _ _ _ _ _ _ | show LCg.CompEnd _ _ _ _ _ _ _ _ _ _ _ _ _ _ | show LCt.CompSrcT _ _ _ _ _ _ _ _ _ _ _ _ _ _ _)); first | walk1 | (dsimp only; walk1)) | (leave1; try dsimp only) | fail))
    k_dflt (refine' ct_useR (notless_ct _ _ _ _ _ _ 10 3 1 (cL li) 10 3 1 (cL lA)) _ ew1 ?kB ?kF ?kX ?kN ?kT ?kk ?kP ?kd ?ku ?_; (case kN => k_asm); (case kP => exact ⟨hbi, hBA⟩); (((case kB | kF | kX => k_asm); (try (case kN => k_asm)); (case kT => k_asm); (case kk => first | exact rfl | assumption); (case kd | ku => (with_unfolding_all decide)); k_whole)))
    intro la10 vs10 k10 h10 tk10 X10 F10 N10 hm10 hr10 hYX
    clear lN
    rename News _ _ _ X10 => lN
    replace hpY := hYX _ hpY
    replace hJP := hJP.mono hYX
    try dsimp only
    try k_sweep
    try k_fold
    (repeat' (first | (k_unfold; (try dsimp only)) | (k_end; wrow_close) | ((with_reducible show wpAny _ _ (execs (_ :: _) _) _ _ (Shared.mk _ _ _ (_ + 1) _)); (with_reducible refine toks_cut ?_); intro _) | ((((with_reducible show wpAny _ _ (subscriptTail _ _ _ _) _ _ _); (try dsimp only); (with_reducible show wpAny _ _ (subscriptTail _ _ (Value.ref _) (Value.int _ _)) _ _ _); k_here; k_dflt (refine' item_refM ?k1 ?k2 ?k4 ?k5 ?k6 ?_; (case k1 => k_asm); (case k2 => k_mem); (case k4 | k5 => omega); (case k6 => first | assumption | exact rfl)); k_whole))) | ((((with_reducible show wpAny _ _ (subscriptTail _ _ _ _) _ _ _); (try dsimp only); (with_reducible show wpAny _ _ (subscriptTail _ _ (Value.ref _) (Value.int _ _)) _ _ _); k_here; k_dflt (refine' item_listM ?k1 ?k2 ?k3 ?k4 ?k5 ?k6 ?_; (case k1 => k_asm); (case k2 => k_mem); (case k3 => assumption); (case k4 | k5 | k6 => omega)); k_whole; intro mq_tp))) | ((fail_if_success with_reducible (first | show wpAny _ _ (call (Value.ref _) _) _ _ _ | show wpAny _ _ (compareOp CmpOp.In _ _) _ _ _ | show wpAny _ _ (compareOp CmpOp.NotEq (Value.ref _) _) _ _ _ | show wpAny _ _ (call (Value.builtin "max") [Value.ref _]) _ _ _ | show wpAny _ _ (exec (Stmt.For _ _ _ _ _) _) _ _ _ | show wpAny _ _ (pyIter _) _ _ _ | show wpAny _ _ (exec (Stmt.Assign _ (Expr.ListComp _ _ _ _) _) _) _ _ _ | show wpAny _ _ (eval (Expr.ListComp _ _ _ _) _) _ _ _ | show LCg.CompSrc _ _ _ _ _ _ _ _ _ _ _ _ _ _ | show LCg.CompEnd _ _ _ _ _ _ _ _ _ _ _ _ _ _ | show LCt.CompSrcT _ _ _ _ _ _ _ _ _ _ _ _ _ _ _)); first | walk1 | (dsimp only; walk1)) | (leave1; try dsimp only) | fail))
    rename_i _ v10z1 _ v10z2 v10z3 v10z4 v10z5 v10z6 v10z7 v10z8 v10z9 v10z10 v10z11 _
    revert wW v1z1 s₁ v1z2 v1z3 v1z4 v1z5 v1z6 v1z7 v1z8 v1z9 v1z10 v1z11 v1z12 v1z13 v1z14 v1z15 v1z16 v1z17 v1z18 v1z19 v1z20 v1z21 sa svs sns v1z22 v1z23 v1z24 v1z25 v1z26 v1z27 v1z28 v1z29 oq q tq o2 o3 o4 o5 o6 o7 h1 v1z30 wa ww0 ww1 ww2 kw xs R1 l0 l1 l2 v1z31 v1z32 v10z1 g1 v1z33 t0 t1 t2 D v1z34 v1z35 R2 v1z36 v1z37 v1z38 fa fvs fk R3 v1z39 v1z40 of Z3 g3 v1z41 ta0 ta1 ta2 tv0 tv1 tv2 tk0 tk1 v4z1 Dt v1z42 v1z43 R4 v1z44 ot Z4 g4 v1z45 lev0 lev1 lev2 Dle v1z46 v1z47 R5 Z5 g5 v1z48 blv0 blv1 blv2 Dbl v1z49 v1z50 R6 Z6 g6 tw tbv0 tbv1 tbv2 Dtb v9z1 v3z1 R7 v1z51 v1z52 v1z53 R8 v1z54 v1z55 v1z56 v1z57 v1z58 v1z59 v1z60 v1z61 v1z62 sev tl3 v4z2 v4z3 R9 v3z2 v3z3 v3z4 v3z5 v3z6 v3z7 v3z8 v3z9 v3z10 c i t' u h' tk' own vm vt vd va wv v3z11 v8z1 li bx bdx btp braw bt1 bt2 bt3 bt4 bt5 bt6 bt7 bt8 lx ldx ltp lraw lt1 lt2 lt3 lt4 lt5 lt6 lt7 lt8 xx_ xdx_ xtp_ xraw_ xt1_ xt2_ xt3_ xt4_ xt5_ xt6_ xt7_ xt8_ to h2 tk2 tkc tc tW v4z4 v4z5 tm h3 tk3 h4 tk4 h5 tk5 oM v6z1 v6z2 v6z3 v6z4 v6z5 S9 e6 u6 h6 tk6 vt2 vd2 aN bA tA tWA qaA qvA qkA qaI qvI qkI lA v8z2 v8z3 v10z2 v10z3 tm14 h14 tk14 v9z2 oA nh v9z3 v9z4 v9z5 v9z6 v9z7 v10z4 ys D2 v10z5 v10z6 hM M_1 tM tkM v9z8 v9z9 Z v10z7 v10z8 v10z9 v10z10 v10z11 g2 ysP twP Dp h tk YL la10 vs10 k10 h10 tk10 X10
    exact hP10.out⟩
theorem item_tup3 {prog : Program} {w : World} {A : Around} {E : Value → Shared → Prop} {s : Shared} {h₀ : Heap} {L l : Addr} {value slice : Expr} {news : Led} {a b d v : Value} {c : Nat} {k : Int} {u : Tok} {Q : Value → Shared → Prop} (N : News h₀ L s.heap news) (hm : (l, tupOb #[a, b, d] c) ∈ news) (h0 : 0 ≤ k) (h1 : k < 3) (hx : [a, b, d][k.toNat]? = some v)
    (h : Q v s)
    (hs : subscripted slice false (.ref l) (.int k u) = operate [.ref l, .int k u] (getItem (.ref l) (.int k u)) := by with_unfolding_all rfl) :
    wpAny (model prog w) A (subscriptTail value slice (.ref l) (.int k u)) Q E s := by
  have hl : IsTup s.heap l [a, b, d].toArray := ⟨_, (N _ hm).1, rfl, c, rfl⟩
  refine item_tupleT hl (j := k.toNat) (x := v) (by omega) (by omega) ?_ hx h hs
  unfold seqIndex?
  have : ¬ k < 0 := by omega
  simp [this]
  omega
theorem rows_yes {cond : Int → Int → Bool} {f g : Int → Int} {k n : Nat} {tw : Led} {ys : List Value} {a : Addr} {t1 t2 t3 : Tok} (h : Rows3 tw ys (wit cond f g k)) (hc : cond (f (1 + (k : Int))) (g (1 + (k : Int))) = true) : Rows3 ((a, tupOb #[.int (1 + (k : Int)) t1, .int (f (1 + (k : Int))) t2, .int (g (1 + (k : Int))) t3] n) :: tw) (ys ++ [.ref a]) (wit cond f g (k + 1)) := by
  show Rows3 _ _ (wit cond f g k ++ if cond (f (1 + (k : Int))) (g (1 + (k : Int))) then [(1 + (k : Int), f (1 + (k : Int)), g (1 + (k : Int)))] else [])
  rw [if_pos hc]
  exact (h.mono fun _ hp => .tail _ hp).snoc (.head _)
theorem rows_no {cond : Int → Int → Bool} {f g : Int → Int} {k : Nat} {tw : Led} {ys : List Value} (h : Rows3 tw ys (wit cond f g k)) (hc : cond (f (1 + (k : Int))) (g (1 + (k : Int))) = false) : Rows3 tw ys (wit cond f g (k + 1)) := by
  show Rows3 _ _ (wit cond f g k ++ if cond (f (1 + (k : Int))) (g (1 + (k : Int))) then [(1 + (k : Int), f (1 + (k : Int)), g (1 + (k : Int)))] else [])
  rw [hc, if_neg (by decide), List.append_nil]
  exact h
theorem ge_yes {x y : Int} (h : y ≤ x) : geB (x + 1) (y + 1) = true := decide_eq_true (by omega)
theorem ge_no {x y : Int} (h : ¬ y ≤ x) : geB (x + 1) (y + 1) = false := decide_eq_false (by omega)
noncomputable def st10 : { P : Prop // Saved P → st9.1 } := ⟨_, fun hP11 => by
  set_option tactic.hygienic false in intro
  k_fill
  set_option tactic.hygienic false in intros
  rename News _ _ _ X10 => lN
  have hyl := rows_len hJP
  k_dflt (refine LCt.ListComp_T (F₀ := by k_asm) (by with_unfolding_all rfl) (by decide) (by rfl) (by decide) (by rfl) ?_)
  (repeat' (first | (k_unfold; (try dsimp only)) | (k_end; wrow_close) | ((with_reducible show wpAny _ _ (execs (_ :: _) _) _ _ (Shared.mk _ _ _ (_ + 1) _)); (with_reducible refine toks_cut ?_); intro _) | ((((with_reducible show wpAny _ _ (subscriptTail _ _ _ _) _ _ _); (try dsimp only); (with_reducible show wpAny _ _ (subscriptTail _ _ (Value.ref _) (Value.int _ _)) _ _ _); k_here; k_dflt (refine' item_tup3 ?k1 ?k2 ?k4 ?k5 ?k6 ?_; (case k1 => k_asm); (case k2 => k_mem); (case k4 | k5 => decide); (case k6 => exact rfl)); k_whole))) | ((((with_reducible show wpAny _ _ (subscriptTail _ _ _ _) _ _ _); (try dsimp only); (with_reducible show wpAny _ _ (subscriptTail _ _ (Value.ref _) (Value.int _ _)) _ _ _); k_here; k_dflt (refine' item_refM ?k1 ?k2 ?k4 ?k5 ?k6 ?_; (case k1 => k_asm); (case k2 => k_mem); (case k4 | k5 => omega); (case k6 => first | assumption | exact rfl)); k_whole))) | ((((with_reducible show wpAny _ _ (subscriptTail _ _ _ _) _ _ _); (try dsimp only); (with_reducible show wpAny _ _ (subscriptTail _ _ (Value.ref _) (Value.int _ _)) _ _ _); k_here; k_dflt (refine' item_listM ?k1 ?k2 ?k3 ?k4 ?k5 ?k6 ?_; (case k1 => k_asm); (case k2 => k_mem); (case k3 => assumption); (case k4 | k5 | k6 => omega)); k_whole; intro mq_tp))) | ((fail_if_success with_reducible (first | show wpAny _ _ (call (Value.ref _) _) _ _ _ | show wpAny _ _ (compareOp CmpOp.In _ _) _ _ _ | show wpAny _ _ (compareOp CmpOp.NotEq (Value.ref _) _) _ _ _ | show wpAny _ _ (call (Value.builtin "max") [Value.ref _]) _ _ _ | show wpAny _ _ (exec (Stmt.For _ _ _ _ _) _) _ _ _ | show wpAny _ _ (pyIter _) _ _ _ | show wpAny _ _ (exec (Stmt.Assign _ (Expr.ListComp _ _ _ _) _) _) _ _ _ | show wpAny _ _ (eval (Expr.ListComp _ _ _ _) _) _ _ _ | show LCg.CompSrc _ _ _ _ _ _ _ _ _ _ _ _ _ _ | show LCg.CompEnd _ _ _ _ _ _ _ _ _ _ _ _ _ _ | show LCt.CompSrcT _ _ _ _ _ _ _ _ _ _ _ _ _ _ _)); first | walk1 | (dsimp only; walk1)) | (leave1; try dsimp only) | fail))
  rename Fr _ _ _ _ => lF
  rename News _ _ _ _ => lN
  with_unfolding_all refine LCt.CompSrcT.ledger (its := ysP.toArray) (k := ysP.length) (by rfl) lF lN hpY (by rw [List.size_toArray, sizeLine_eq]; omega) ?_
  intro g2
  refine crT_inv (fun j zs nw2 => ∃ tw, nw2 = tw ++ X10 ∧ Rows3 tw zs (wit geB (fun t => colA li t + 1) (fun t => colA lA t + 1) j)) ⟨[], rfl, .nil⟩ ?_ ?_
  · intro i4 v I oI C oC D3 m₂ zs nw2 h2 tk2 E' hi4 hv hJ3 hC hx F2 N2 off ne
    obtain ⟨tw, rfl, hJ3⟩ := hJ3
    rw [List.size_toArray, hyl] at hi4
    obtain ⟨pa, pk, pt1, pt2, pt3, rfl, hpm⟩ := wit_row hJP hi4 (by simpa using hv)
    try k_fold
    (repeat' (first | (k_unfold; (try dsimp only)) | (k_end; wrow_close) | ((with_reducible show wpAny _ _ (execs (_ :: _) _) _ _ (Shared.mk _ _ _ (_ + 1) _)); (with_reducible refine toks_cut ?_); intro _) | ((((with_reducible show wpAny _ _ (subscriptTail _ _ _ _) _ _ _); (try dsimp only); (with_reducible show wpAny _ _ (subscriptTail _ _ (Value.ref _) (Value.int _ _)) _ _ _); k_here; k_dflt (refine' item_tup3 ?k1 ?k2 ?k4 ?k5 ?k6 ?_; (case k1 => k_asm); (case k2 => k_mem); (case k4 | k5 => decide); (case k6 => exact rfl)); k_whole))) | ((((with_reducible show wpAny _ _ (subscriptTail _ _ _ _) _ _ _); (try dsimp only); (with_reducible show wpAny _ _ (subscriptTail _ _ (Value.ref _) (Value.int _ _)) _ _ _); k_here; k_dflt (refine' item_refM ?k1 ?k2 ?k4 ?k5 ?k6 ?_; (case k1 => k_asm); (case k2 => k_mem); (case k4 | k5 => omega); (case k6 => first | assumption | exact rfl)); k_whole))) | ((((with_reducible show wpAny _ _ (subscriptTail _ _ _ _) _ _ _); (try dsimp only); (with_reducible show wpAny _ _ (subscriptTail _ _ (Value.ref _) (Value.int _ _)) _ _ _); k_here; k_dflt (refine' item_listM ?k1 ?k2 ?k3 ?k4 ?k5 ?k6 ?_; (case k1 => k_asm); (case k2 => k_mem); (case k3 => assumption); (case k4 | k5 | k6 => omega)); k_whole; intro mq_tp))) | ((fail_if_success with_reducible (first | show wpAny _ _ (call (Value.ref _) _) _ _ _ | show wpAny _ _ (compareOp CmpOp.In _ _) _ _ _ | show wpAny _ _ (compareOp CmpOp.NotEq (Value.ref _) _) _ _ _ | show wpAny _ _ (call (Value.builtin "max") [Value.ref _]) _ _ _ | show wpAny _ _ (exec (Stmt.For _ _ _ _ _) _) _ _ _ | show wpAny _ _ (pyIter _) _ _ _ | show wpAny _ _ (exec (Stmt.Assign _ (Expr.ListComp _ _ _ _) _) _) _ _ _ | show wpAny _ _ (eval (Expr.ListComp _ _ _ _) _) _ _ _ | show LCg.CompSrc _ _ _ _ _ _ _ _ _ _ _ _ _ _ | show LCg.CompEnd _ _ _ _ _ _ _ _ _ _ _ _ _ _ | show LCt.CompSrcT _ _ _ _ _ _ _ _ _ _ _ _ _ _ _)); first | walk1 | (dsimp only; walk1)) | (leave1; try dsimp only) | fail))
    · rename (I < _ ∧ C < _ ∧ D3 < _ ∧ AllLt _ _) => hl
      exact LCg.CompEnd.intro (by k_asm) (by assumption) _ (fun p hp => wd_mem hp) ⟨⟨Nat.ne_of_gt hl.1, Nat.ne_of_gt hl.2.1, Nat.ne_of_gt hl.2.2.1⟩, off⟩ (Or.inr ⟨_, .tail _ (List.mem_append.mpr (.inr hpY)), rfl, _, rfl⟩) ⟨_ :: tw, rfl, rows_yes (f := fun t => colA li t + 1) (g := fun t => colA lA t + 1) hJ3 (ge_yes (by first | assumption | omega))⟩
    · exact LCg.CompEnd.intro (by k_asm) (by k_asm) _ (fun p hp => hp) off (Or.inr ⟨_, List.mem_append.mpr (.inr hpY), rfl, _, rfl⟩) ⟨tw, rfl, rows_no (f := fun t => colA li t + 1) (g := fun t => colA lA t + 1) hJ3 (ge_no (by first | assumption | omega))⟩
  · intro zsQ nwQ hJ3
    obtain ⟨twQ, rfl, hJ3⟩ := hJ3
    rw [List.size_toArray, hyl] at hJ3
    unfold LCg.FinE
    intro Dq h tk F1 N1 o1
    clear o1
    have hXq : ∀ p ∈ X10, p ∈ (Dq, LCg.lst zsQ) :: (twQ ++ X10) := fun p hp => .tail _ (List.mem_append.mpr (.inr hp))
    k_dflt (refine' lw_ne N1 (hXq _ hm10) (.head _) (hr10.mono hXq) (hJ3.mono fun p hp => .tail _ (List.mem_append.mpr (.inl hp))) (by ke_room) ?_)
    k_whole
    refine news_cut N1 ?_
    intro ZQ lN hZQ
    clear N1 hr10 hm10 hJ3
    replace hYX : ∀ p ∈ YL, p ∈ ZQ := fun p hp => hZQ p (.tail _ (List.mem_append.mpr (.inr (hYX p hp))))
    replace hpY := hZQ _ (.tail _ (List.mem_append.mpr (.inr hpY)))
    replace hJP := hJP.mono (fun p hp => hZQ p (.tail _ (List.mem_append.mpr (.inr hp))))
    clear hXq hZQ
    try dsimp only
    try k_sweep
    try k_fold
    (repeat' (first | (k_unfold; (try dsimp only)) | (k_end; wrow_close) | ((with_reducible show wpAny _ _ (execs (_ :: _) _) _ _ (Shared.mk _ _ _ (_ + 1) _)); (with_reducible refine toks_cut ?_); intro _) | ((((with_reducible show wpAny _ _ (subscriptTail _ _ _ _) _ _ _); (try dsimp only); (with_reducible show wpAny _ _ (subscriptTail _ _ (Value.ref _) (Value.int _ _)) _ _ _); k_here; k_dflt (refine' item_tup3 ?k1 ?k2 ?k4 ?k5 ?k6 ?_; (case k1 => k_asm); (case k2 => k_mem); (case k4 | k5 => decide); (case k6 => exact rfl)); k_whole))) | ((((with_reducible show wpAny _ _ (subscriptTail _ _ _ _) _ _ _); (try dsimp only); (with_reducible show wpAny _ _ (subscriptTail _ _ (Value.ref _) (Value.int _ _)) _ _ _); k_here; k_dflt (refine' item_refM ?k1 ?k2 ?k4 ?k5 ?k6 ?_; (case k1 => k_asm); (case k2 => k_mem); (case k4 | k5 => omega); (case k6 => first | assumption | exact rfl)); k_whole))) | ((((with_reducible show wpAny _ _ (subscriptTail _ _ _ _) _ _ _); (try dsimp only); (with_reducible show wpAny _ _ (subscriptTail _ _ (Value.ref _) (Value.int _ _)) _ _ _); k_here; k_dflt (refine' item_listM ?k1 ?k2 ?k3 ?k4 ?k5 ?k6 ?_; (case k1 => k_asm); (case k2 => k_mem); (case k3 => assumption); (case k4 | k5 | k6 => omega)); k_whole; intro mq_tp))) | ((fail_if_success with_reducible (first | show wpAny _ _ (call (Value.ref _) _) _ _ _ | show wpAny _ _ (compareOp CmpOp.In _ _) _ _ _ | show wpAny _ _ (compareOp CmpOp.NotEq (Value.ref _) _) _ _ _ | show wpAny _ _ (call (Value.builtin "max") [Value.ref _]) _ _ _ | show wpAny _ _ (exec (Stmt.For _ _ _ _ _) _) _ _ _ | show wpAny _ _ (pyIter _) _ _ _ | show wpAny _ _ (exec (Stmt.Assign _ (Expr.ListComp _ _ _ _) _) _) _ _ _ | show wpAny _ _ (eval (Expr.ListComp _ _ _ _) _) _ _ _ | show LCg.CompSrc _ _ _ _ _ _ _ _ _ _ _ _ _ _ | show LCg.CompEnd _ _ _ _ _ _ _ _ _ _ _ _ _ _ | show LCt.CompSrcT _ _ _ _ _ _ _ _ _ _ _ _ _ _ _)); first | walk1 | (dsimp only; walk1)) | (leave1; try dsimp only) | fail))
    rename_i _ _ v11z1 v11z2 v11z3
    revert wW v1z1 s₁ v1z2 v1z3 v1z4 v1z5 v1z6 v1z7 v1z8 v1z9 v1z10 v1z11 v1z12 v1z13 v1z14 v1z15 v1z16 v1z17 v1z18 v1z19 v1z20 v1z21 sa svs sns v1z22 v1z23 v1z24 v1z25 v1z26 v1z27 v1z28 v1z29 oq q tq o2 o3 o4 o5 o6 o7 h1 v1z30 wa ww0 ww1 ww2 kw xs R1 l0 l1 l2 v1z31 v1z32 v10z1 g1 v1z33 t0 t1 t2 D v1z34 v1z35 R2 v1z36 v1z37 v1z38 fa fvs fk R3 v1z39 v1z40 of Z3 g3 v1z41 ta0 ta1 ta2 tv0 tv1 tv2 tk0 tk1 v4z1 Dt v1z42 v1z43 R4 v1z44 ot Z4 g4 v1z45 lev0 lev1 lev2 Dle v1z46 v1z47 R5 Z5 g5 v1z48 blv0 blv1 blv2 Dbl v1z49 v1z50 R6 Z6 g6 tw tbv0 tbv1 tbv2 Dtb v9z1 v3z1 R7 v1z51 v1z52 v1z53 R8 v1z54 v1z55 v1z56 v1z57 v1z58 v1z59 v1z60 v1z61 v1z62 sev tl3 v4z2 v4z3 R9 v3z2 v3z3 v3z4 v3z5 v3z6 v3z7 v3z8 v3z9 v3z10 c i t' u h' tk' own vm vt vd va wv v3z11 v8z1 li bx bdx btp braw bt1 bt2 bt3 bt4 bt5 bt6 bt7 bt8 lx ldx ltp lraw lt1 lt2 lt3 lt4 lt5 lt6 lt7 lt8 xx_ xdx_ xtp_ xraw_ xt1_ xt2_ xt3_ xt4_ xt5_ xt6_ xt7_ xt8_ to h2 tk2 tkc tc tW v4z4 v4z5 tm h3 tk3 h4 tk4 h5 tk5 oM v6z1 v6z2 v6z3 v6z4 v6z5 S9 e6 u6 h6 tk6 vt2 vd2 aN bA tA tWA qaA qvA qkA qaI qvI qkI lA v8z2 v8z3 v10z2 v10z3 tm14 h14 tk14 v9z2 oA nh v9z3 v9z4 v9z5 v9z6 v9z7 v10z4 ys D2 v10z5 v10z6 hM M_1 tM tkM v9z8 v9z9 Z v10z7 v10z8 v10z9 v10z10 v10z11 v11z1 ysP twP Dp v11z2 v11z3 YL la10 vs10 k10 h10 tk10 X10 g2 zsQ twQ Dq h tk ZQ
    exact hP11.out⟩
theorem ne_yes {x y : Int} (h : ¬ x = y) : neB x y = true := decide_eq_true h
theorem ne_no {x y : Int} (h : x = y) : neB x y = false := decide_eq_false (fun n => n h)
noncomputable def st11 : { P : Prop // Saved P → st10.1 } := ⟨_, fun hP12 => by
  set_option tactic.hygienic false in intro
  k_fill
  set_option tactic.hygienic false in intros
  rename News _ _ _ ZQ => lN
  k_dflt (refine LCg.Assign_ListComp_U (F₀ := by k_asm) (by rfl) (by with_unfolding_all rfl) (by with_unfolding_all rfl) (by decide) (by rfl) (by decide) (by rfl) (by rfl) (by rfl) ?_)
  (repeat' (first | (k_unfold; (try dsimp only)) | (k_end; wrow_close) | ((with_reducible show wpAny _ _ (execs (_ :: _) _) _ _ (Shared.mk _ _ _ (_ + 1) _)); (with_reducible refine toks_cut ?_); intro _) | ((((with_reducible show wpAny _ _ (subscriptTail _ _ _ _) _ _ _); (try dsimp only); (with_reducible show wpAny _ _ (subscriptTail _ _ (Value.ref _) (Value.int _ _)) _ _ _); k_here; k_dflt (refine' item_tup3 ?k1 ?k2 ?k4 ?k5 ?k6 ?_; (case k1 => k_asm); (case k2 => k_mem); (case k4 | k5 => decide); (case k6 => exact rfl)); k_whole))) | ((((with_reducible show wpAny _ _ (subscriptTail _ _ _ _) _ _ _); (try dsimp only); (with_reducible show wpAny _ _ (subscriptTail _ _ (Value.ref _) (Value.int _ _)) _ _ _); k_here; k_dflt (refine' item_refM ?k1 ?k2 ?k4 ?k5 ?k6 ?_; (case k1 => k_asm); (case k2 => k_mem); (case k4 | k5 => omega); (case k6 => first | assumption | exact rfl)); k_whole))) | ((((with_reducible show wpAny _ _ (subscriptTail _ _ _ _) _ _ _); (try dsimp only); (with_reducible show wpAny _ _ (subscriptTail _ _ (Value.ref _) (Value.int _ _)) _ _ _); k_here; k_dflt (refine' item_listM ?k1 ?k2 ?k3 ?k4 ?k5 ?k6 ?_; (case k1 => k_asm); (case k2 => k_mem); (case k3 => assumption); (case k4 | k5 | k6 => omega)); k_whole; intro mq_tp))) | ((fail_if_success with_reducible (first | show wpAny _ _ (call (Value.ref _) _) _ _ _ | show wpAny _ _ (compareOp CmpOp.In _ _) _ _ _ | show wpAny _ _ (compareOp CmpOp.NotEq (Value.ref _) _) _ _ _ | show wpAny _ _ (call (Value.builtin "max") [Value.ref _]) _ _ _ | show wpAny _ _ (exec (Stmt.For _ _ _ _ _) _) _ _ _ | show wpAny _ _ (pyIter _) _ _ _ | show wpAny _ _ (exec (Stmt.Assign _ (Expr.ListComp _ _ _ _) _) _) _ _ _ | show wpAny _ _ (eval (Expr.ListComp _ _ _ _) _) _ _ _ | show LCg.CompSrc _ _ _ _ _ _ _ _ _ _ _ _ _ _ | show LCg.CompEnd _ _ _ _ _ _ _ _ _ _ _ _ _ _ | show LCt.CompSrcT _ _ _ _ _ _ _ _ _ _ _ _ _ _ _)); first | walk1 | (dsimp only; walk1)) | (leave1; try dsimp only) | fail))
  rename Fr _ _ _ _ => lF
  rename News _ _ _ _ => lN
  with_unfolding_all refine LCg.CompSrc.ledger (its := ysP.toArray) (k := ysP.length) (by rfl) lF lN hpY (by rw [List.size_toArray, sizeLine_eq]; omega) ?_
  intro g2
  refine cr_inv (fun j zs nw2 => ∃ tw, nw2 = tw ++ ZQ ∧ Rows3 tw zs (wit yesB (colA li) (fun t => colA lA t + t) j)) ⟨[], rfl, .nil⟩ ?_ ?_
  · intro i4 v I oI C oC D3 m₂ zs nw2 h2 tk2 E' hi4 hv hJ3 hC hx F2 N2 off ne
    obtain ⟨tw, rfl, hJ3⟩ := hJ3
    rw [List.size_toArray, hyl] at hi4
    obtain ⟨pa, pk, pt1, pt2, pt3, rfl, hpm⟩ := wit_row hJP hi4 (by simpa using hv)
    try k_fold
    (repeat' (first | (k_unfold; (try dsimp only)) | (k_end; wrow_close) | ((with_reducible show wpAny _ _ (execs (_ :: _) _) _ _ (Shared.mk _ _ _ (_ + 1) _)); (with_reducible refine toks_cut ?_); intro _) | ((((with_reducible show wpAny _ _ (subscriptTail _ _ _ _) _ _ _); (try dsimp only); (with_reducible show wpAny _ _ (subscriptTail _ _ (Value.ref _) (Value.int _ _)) _ _ _); k_here; k_dflt (refine' item_tup3 ?k1 ?k2 ?k4 ?k5 ?k6 ?_; (case k1 => k_asm); (case k2 => k_mem); (case k4 | k5 => decide); (case k6 => exact rfl)); k_whole))) | ((((with_reducible show wpAny _ _ (subscriptTail _ _ _ _) _ _ _); (try dsimp only); (with_reducible show wpAny _ _ (subscriptTail _ _ (Value.ref _) (Value.int _ _)) _ _ _); k_here; k_dflt (refine' item_refM ?k1 ?k2 ?k4 ?k5 ?k6 ?_; (case k1 => k_asm); (case k2 => k_mem); (case k4 | k5 => omega); (case k6 => first | assumption | exact rfl)); k_whole))) | ((((with_reducible show wpAny _ _ (subscriptTail _ _ _ _) _ _ _); (try dsimp only); (with_reducible show wpAny _ _ (subscriptTail _ _ (Value.ref _) (Value.int _ _)) _ _ _); k_here; k_dflt (refine' item_listM ?k1 ?k2 ?k3 ?k4 ?k5 ?k6 ?_; (case k1 => k_asm); (case k2 => k_mem); (case k3 => assumption); (case k4 | k5 | k6 => omega)); k_whole; intro mq_tp))) | ((fail_if_success with_reducible (first | show wpAny _ _ (call (Value.ref _) _) _ _ _ | show wpAny _ _ (compareOp CmpOp.In _ _) _ _ _ | show wpAny _ _ (compareOp CmpOp.NotEq (Value.ref _) _) _ _ _ | show wpAny _ _ (call (Value.builtin "max") [Value.ref _]) _ _ _ | show wpAny _ _ (exec (Stmt.For _ _ _ _ _) _) _ _ _ | show wpAny _ _ (pyIter _) _ _ _ | show wpAny _ _ (exec (Stmt.Assign _ (Expr.ListComp _ _ _ _) _) _) _ _ _ | show wpAny _ _ (eval (Expr.ListComp _ _ _ _) _) _ _ _ | show LCg.CompSrc _ _ _ _ _ _ _ _ _ _ _ _ _ _ | show LCg.CompEnd _ _ _ _ _ _ _ _ _ _ _ _ _ _ | show LCt.CompSrcT _ _ _ _ _ _ _ _ _ _ _ _ _ _ _)); first | walk1 | (dsimp only; walk1)) | (leave1; try dsimp only) | fail))
    rename (I < _ ∧ C < _ ∧ D3 < _ ∧ AllLt _ _) => hl
    exact LCg.CompEnd.intro (by k_asm) (by assumption) _ (fun p hp => wd_mem hp) ⟨⟨Nat.ne_of_gt hl.1, Nat.ne_of_gt hl.2.1, Nat.ne_of_gt hl.2.2.1⟩, off⟩ (Or.inr ⟨_, .tail _ (List.mem_append.mpr (.inr hpY)), rfl, _, rfl⟩) ⟨_ :: tw, rfl, rows_next (g := fun t => colA lA t + t) hJ3⟩
  · intro zsR nwR hJR
    obtain ⟨twR, rfl, hJR⟩ := hJR
    rw [List.size_toArray, hyl] at hJR
    unfold LCg.FinA
    intro Dr h tk F1 N1 o1
    clear o1
    refine news_cut N1 ?_
    intro V lN hV
    clear N1
    have hrV : (Dr, LCg.lst zsR) ∈ V := hV _ (.head _)
    replace hJR := hJR.mono (fun p hp => hV p (.tail _ (List.mem_append.mpr (.inl hp))))
    have hYV : ∀ p ∈ YL, p ∈ V := fun p hp => hV p (.tail _ (List.mem_append.mpr (.inr (hYX p hp))))
    clear hV hYX hpY hJP
    have hyr := rows_len hJR
    replace hz4 := hYV _ hz4
    replace hz7 := hYV _ hz7
    replace lobj := hYV _ lobj
    replace ldct := hYV _ ldct
    replace hDle := hYV _ hDle
    replace hDtb := hYV _ hDtb
    replace hli := hli.mono hYV
    replace hTA := hTA.mono hYV
    try k_fold
    (repeat' (first | (k_unfold; (try dsimp only)) | (k_end; wrow_close) | ((with_reducible show wpAny _ _ (execs (_ :: _) _) _ _ (Shared.mk _ _ _ (_ + 1) _)); (with_reducible refine toks_cut ?_); intro _) | ((((with_reducible show wpAny _ _ (subscriptTail _ _ _ _) _ _ _); (try dsimp only); (with_reducible show wpAny _ _ (subscriptTail _ _ (Value.ref _) (Value.int _ _)) _ _ _); k_here; k_dflt (refine' item_tup3 ?k1 ?k2 ?k4 ?k5 ?k6 ?_; (case k1 => k_asm); (case k2 => k_mem); (case k4 | k5 => decide); (case k6 => exact rfl)); k_whole))) | ((((with_reducible show wpAny _ _ (subscriptTail _ _ _ _) _ _ _); (try dsimp only); (with_reducible show wpAny _ _ (subscriptTail _ _ (Value.ref _) (Value.int _ _)) _ _ _); k_here; k_dflt (refine' item_refM ?k1 ?k2 ?k4 ?k5 ?k6 ?_; (case k1 => k_asm); (case k2 => k_mem); (case k4 | k5 => omega); (case k6 => first | assumption | exact rfl)); k_whole))) | ((((with_reducible show wpAny _ _ (subscriptTail _ _ _ _) _ _ _); (try dsimp only); (with_reducible show wpAny _ _ (subscriptTail _ _ (Value.ref _) (Value.int _ _)) _ _ _); k_here; k_dflt (refine' item_listM ?k1 ?k2 ?k3 ?k4 ?k5 ?k6 ?_; (case k1 => k_asm); (case k2 => k_mem); (case k3 => assumption); (case k4 | k5 | k6 => omega)); k_whole; intro mq_tp))) | ((fail_if_success with_reducible (first | show wpAny _ _ (call (Value.ref _) _) _ _ _ | show wpAny _ _ (compareOp CmpOp.In _ _) _ _ _ | show wpAny _ _ (compareOp CmpOp.NotEq (Value.ref _) _) _ _ _ | show wpAny _ _ (call (Value.builtin "max") [Value.ref _]) _ _ _ | show wpAny _ _ (exec (Stmt.For _ _ _ _ _) _) _ _ _ | show wpAny _ _ (pyIter _) _ _ _ | show wpAny _ _ (exec (Stmt.Assign _ (Expr.ListComp _ _ _ _) _) _) _ _ _ | show wpAny _ _ (eval (Expr.ListComp _ _ _ _) _) _ _ _ | show LCg.CompSrc _ _ _ _ _ _ _ _ _ _ _ _ _ _ | show LCg.CompEnd _ _ _ _ _ _ _ _ _ _ _ _ _ _ | show LCt.CompSrcT _ _ _ _ _ _ _ _ _ _ _ _ _ _ _)); first | walk1 | (dsimp only; walk1)) | (leave1; try dsimp only) | fail))
    k_dflt (refine' ct_useR (notequal_ct _ _ _ _ _ _ 9 3 0 (cL li) 10 4 0 (cTt lA)) _ ew2 ?kB ?kF ?kX ?kN ?kT ?kk ?kP ?kd ?ku ?_; (case kN => k_asm); (case kP => exact ⟨hli, hTA⟩); (((case kB | kF | kX => k_asm); (try (case kN => k_asm)); (case kT => k_asm); (case kk => first | exact rfl | assumption); (case kd | ku => (with_unfolding_all decide)); k_whole)))
    intro la12 vs12 k12 h12 tk12 X12 F12 N12 hm12 hr12 hX12
    clear lN
    rename News _ _ _ X12 => lN
    replace hYV : ∀ p ∈ YL, p ∈ X12 := fun p hp => hX12 p (hYV p hp)
    replace hrV := hX12 _ hrV
    replace hJR := hJR.mono hX12
    clear hX12
    try dsimp only
    try k_sweep
    try k_fold
    (repeat' (first | (k_unfold; (try dsimp only)) | (k_end; wrow_close) | ((with_reducible show wpAny _ _ (execs (_ :: _) _) _ _ (Shared.mk _ _ _ (_ + 1) _)); (with_reducible refine toks_cut ?_); intro _) | ((((with_reducible show wpAny _ _ (subscriptTail _ _ _ _) _ _ _); (try dsimp only); (with_reducible show wpAny _ _ (subscriptTail _ _ (Value.ref _) (Value.int _ _)) _ _ _); k_here; k_dflt (refine' item_tup3 ?k1 ?k2 ?k4 ?k5 ?k6 ?_; (case k1 => k_asm); (case k2 => k_mem); (case k4 | k5 => decide); (case k6 => exact rfl)); k_whole))) | ((((with_reducible show wpAny _ _ (subscriptTail _ _ _ _) _ _ _); (try dsimp only); (with_reducible show wpAny _ _ (subscriptTail _ _ (Value.ref _) (Value.int _ _)) _ _ _); k_here; k_dflt (refine' item_refM ?k1 ?k2 ?k4 ?k5 ?k6 ?_; (case k1 => k_asm); (case k2 => k_mem); (case k4 | k5 => omega); (case k6 => first | assumption | exact rfl)); k_whole))) | ((((with_reducible show wpAny _ _ (subscriptTail _ _ _ _) _ _ _); (try dsimp only); (with_reducible show wpAny _ _ (subscriptTail _ _ (Value.ref _) (Value.int _ _)) _ _ _); k_here; k_dflt (refine' item_listM ?k1 ?k2 ?k3 ?k4 ?k5 ?k6 ?_; (case k1 => k_asm); (case k2 => k_mem); (case k3 => assumption); (case k4 | k5 | k6 => omega)); k_whole; intro mq_tp))) | ((fail_if_success with_reducible (first | show wpAny _ _ (call (Value.ref _) _) _ _ _ | show wpAny _ _ (compareOp CmpOp.In _ _) _ _ _ | show wpAny _ _ (compareOp CmpOp.NotEq (Value.ref _) _) _ _ _ | show wpAny _ _ (call (Value.builtin "max") [Value.ref _]) _ _ _ | show wpAny _ _ (exec (Stmt.For _ _ _ _ _) _) _ _ _ | show wpAny _ _ (pyIter _) _ _ _ | show wpAny _ _ (exec (Stmt.Assign _ (Expr.ListComp _ _ _ _) _) _) _ _ _ | show wpAny _ _ (eval (Expr.ListComp _ _ _ _) _) _ _ _ | show LCg.CompSrc _ _ _ _ _ _ _ _ _ _ _ _ _ _ | show LCg.CompEnd _ _ _ _ _ _ _ _ _ _ _ _ _ _ | show LCt.CompSrcT _ _ _ _ _ _ _ _ _ _ _ _ _ _ _)); first | walk1 | (dsimp only; walk1)) | (leave1; try dsimp only) | fail))
    rename_i _ _ v12z1 v12z2 v12z3
    revert wW v1z1 s₁ v1z2 v1z3 v1z4 v1z5 v1z6 v1z7 v1z8 v1z9 v1z10 v1z11 v1z12 v1z13 v1z14 v1z15 v1z16 v1z17 v1z18 v1z19 v1z20 v1z21 sa svs sns v1z22 v1z23 v1z24 v1z25 v1z26 v1z27 v1z28 v1z29 oq q tq o2 o3 o4 o5 o6 o7 h1 v1z30 wa ww0 ww1 ww2 kw xs R1 l0 l1 l2 v1z31 v1z32 v10z1 g1 v1z33 t0 t1 t2 D v1z34 v1z35 R2 v1z36 v1z37 v1z38 fa fvs fk R3 v1z39 v1z40 of Z3 g3 v1z41 ta0 ta1 ta2 tv0 tv1 tv2 tk0 tk1 v4z1 Dt v1z42 v1z43 R4 v1z44 ot Z4 g4 v1z45 lev0 lev1 lev2 Dle v1z46 v1z47 R5 Z5 g5 v1z48 blv0 blv1 blv2 Dbl v1z49 v1z50 R6 Z6 g6 tw tbv0 tbv1 tbv2 Dtb v9z1 v3z1 R7 v1z51 v1z52 v1z53 R8 v1z54 v1z55 v1z56 v1z57 v1z58 v1z59 v1z60 v1z61 v1z62 sev tl3 v4z2 v4z3 R9 v3z2 v3z3 v3z4 v3z5 v3z6 v3z7 v3z8 v3z9 v3z10 c i t' u h' tk' own vm vt vd va wv v3z11 v8z1 li bx bdx btp braw bt1 bt2 bt3 bt4 bt5 bt6 bt7 bt8 lx ldx ltp lraw lt1 lt2 lt3 lt4 lt5 lt6 lt7 lt8 xx_ xdx_ xtp_ xraw_ xt1_ xt2_ xt3_ xt4_ xt5_ xt6_ xt7_ xt8_ to h2 tk2 tkc tc tW v4z4 v4z5 tm h3 tk3 h4 tk4 h5 tk5 oM v6z1 v6z2 v6z3 v6z4 v6z5 S9 e6 u6 h6 tk6 vt2 vd2 aN bA tA tWA qaA qvA qkA qaI qvI qkI lA v8z2 v8z3 v10z2 v10z3 tm14 h14 tk14 v9z2 oA nh v9z3 v9z4 v9z5 v9z6 v9z7 v10z4 ys D2 v10z5 v10z6 hM M_1 tM tkM v9z8 v9z9 Z v10z7 v10z8 v10z9 v10z10 v10z11 v11z1 ysP twP Dp v11z2 v11z3 YL la10 vs10 k10 h10 tk10 X10 v12z1 zsQ twQ Dq v12z2 v12z3 ZQ g2 zsR twR Dr h tk V la12 vs12 k12 h12 tk12 X12
    exact hP12.out⟩
theorem rows_same {cond : Int → Int → Bool} {f g : Int → Int} {k n : Nat} {Z : Led} {ys : List Value} {a : Addr} {t1 t2 t3 : Tok} (h : Rows3 Z ys (wit cond f g k)) (hm : (a, tupOb #[.int (1 + (k : Int)) t1, .int (f (1 + (k : Int))) t2, .int (g (1 + (k : Int))) t3] n) ∈ Z) (hc : cond (f (1 + (k : Int))) (g (1 + (k : Int))) = true) : Rows3 Z (ys ++ [.ref a]) (wit cond f g (k + 1)) := by
  show Rows3 _ _ (wit cond f g k ++ if cond (f (1 + (k : Int))) (g (1 + (k : Int))) then [(1 + (k : Int), f (1 + (k : Int)), g (1 + (k : Int)))] else [])
  rw [if_pos hc]
  exact h.snoc hm
theorem cons7_mono {a b c d e f g : Addr × Obj} {R S : Led} (h : ∀ p ∈ R, p ∈ S) : ∀ p ∈ a :: b :: c :: d :: e :: f :: g :: R, p ∈ a :: b :: c :: d :: e :: f :: g :: S := by
  intro p hp
  simp only [List.mem_cons] at *
  rcases hp with hp | hp | hp | hp | hp | hp | hp | hp
  iterate 7 simp [hp]
  simp [h p hp]
theorem cons7_own {a b c d e f g : Addr × Obj} {R S own : Led} (h : S = R ++ own) : ∀ p ∈ own, p ∈ a :: b :: c :: d :: e :: f :: g :: S := by
  intro p hp
  simp [h, hp]
theorem p12 : st11.1 := by
  set_option tactic.hygienic false in intro
  k_fill
  set_option tactic.hygienic false in intros
  rename News _ _ _ X12 => lN
  k_dflt (refine LCt.ListComp_T (F₀ := by k_asm) (by with_unfolding_all rfl) (by decide) (by rfl) (by decide) (by rfl) ?_)
  (repeat' (first | (k_unfold; (try dsimp only)) | (k_end; wrow_close) | ((with_reducible show wpAny _ _ (execs (_ :: _) _) _ _ (Shared.mk _ _ _ (_ + 1) _)); (with_reducible refine toks_cut ?_); intro _) | ((((with_reducible show wpAny _ _ (subscriptTail _ _ _ _) _ _ _); (try dsimp only); (with_reducible show wpAny _ _ (subscriptTail _ _ (Value.ref _) (Value.int _ _)) _ _ _); k_here; k_dflt (refine' item_tup3 ?k1 ?k2 ?k4 ?k5 ?k6 ?_; (case k1 => k_asm); (case k2 => k_mem); (case k4 | k5 => decide); (case k6 => exact rfl)); k_whole))) | ((((with_reducible show wpAny _ _ (subscriptTail _ _ _ _) _ _ _); (try dsimp only); (with_reducible show wpAny _ _ (subscriptTail _ _ (Value.ref _) (Value.int _ _)) _ _ _); k_here; k_dflt (refine' item_refM ?k1 ?k2 ?k4 ?k5 ?k6 ?_; (case k1 => k_asm); (case k2 => k_mem); (case k4 | k5 => omega); (case k6 => first | assumption | exact rfl)); k_whole))) | ((((with_reducible show wpAny _ _ (subscriptTail _ _ _ _) _ _ _); (try dsimp only); (with_reducible show wpAny _ _ (subscriptTail _ _ (Value.ref _) (Value.int _ _)) _ _ _); k_here; k_dflt (refine' item_listM ?k1 ?k2 ?k3 ?k4 ?k5 ?k6 ?_; (case k1 => k_asm); (case k2 => k_mem); (case k3 => assumption); (case k4 | k5 | k6 => omega)); k_whole; intro mq_tp))) | ((fail_if_success with_reducible (first | show wpAny _ _ (call (Value.ref _) _) _ _ _ | show wpAny _ _ (compareOp CmpOp.In _ _) _ _ _ | show wpAny _ _ (compareOp CmpOp.NotEq (Value.ref _) _) _ _ _ | show wpAny _ _ (call (Value.builtin "max") [Value.ref _]) _ _ _ | show wpAny _ _ (exec (Stmt.For _ _ _ _ _) _) _ _ _ | show wpAny _ _ (pyIter _) _ _ _ | show wpAny _ _ (exec (Stmt.Assign _ (Expr.ListComp _ _ _ _) _) _) _ _ _ | show wpAny _ _ (eval (Expr.ListComp _ _ _ _) _) _ _ _ | show LCg.CompSrc _ _ _ _ _ _ _ _ _ _ _ _ _ _ | show LCg.CompEnd _ _ _ _ _ _ _ _ _ _ _ _ _ _ | show LCt.CompSrcT _ _ _ _ _ _ _ _ _ _ _ _ _ _ _)); first | walk1 | (dsimp only; walk1)) | (leave1; try dsimp only) | fail))
  rename Fr _ _ _ _ => lF
  rename News _ _ _ _ => lN
  with_unfolding_all refine LCt.CompSrcT.ledger (its := zsR.toArray) (k := zsR.length) (by rfl) lF lN hrV (by rw [List.size_toArray, sizeLine_eq]; omega) ?_
  intro g2
  refine crT_inv (fun j zs nw2 => nw2 = X12 ∧ Rows3 X12 zs (wit neB (colA li) (fun t => colA lA t + t) j)) ⟨rfl, .nil⟩ ?_ ?_
  · intro i4 v I oI C oC D3 m₂ zs nw2 h2 tk2 E' hi4 hv hJ3 hC hx F2 N2 off ne
    obtain ⟨rfl, hJ3⟩ := hJ3
    rw [List.size_toArray, hyr] at hi4
    obtain ⟨pa, pk, pt1, pt2, pt3, rfl, hpm⟩ := wit_row hJR hi4 (by simpa using hv)
    try k_fold
    (repeat' (first | (k_unfold; (try dsimp only)) | (k_end; wrow_close) | ((with_reducible show wpAny _ _ (execs (_ :: _) _) _ _ (Shared.mk _ _ _ (_ + 1) _)); (with_reducible refine toks_cut ?_); intro _) | ((((with_reducible show wpAny _ _ (subscriptTail _ _ _ _) _ _ _); (try dsimp only); (with_reducible show wpAny _ _ (subscriptTail _ _ (Value.ref _) (Value.int _ _)) _ _ _); k_here; k_dflt (refine' item_tup3 ?k1 ?k2 ?k4 ?k5 ?k6 ?_; (case k1 => k_asm); (case k2 => k_mem); (case k4 | k5 => decide); (case k6 => exact rfl)); k_whole))) | ((((with_reducible show wpAny _ _ (subscriptTail _ _ _ _) _ _ _); (try dsimp only); (with_reducible show wpAny _ _ (subscriptTail _ _ (Value.ref _) (Value.int _ _)) _ _ _); k_here; k_dflt (refine' item_refM ?k1 ?k2 ?k4 ?k5 ?k6 ?_; (case k1 => k_asm); (case k2 => k_mem); (case k4 | k5 => omega); (case k6 => first | assumption | exact rfl)); k_whole))) | ((((with_reducible show wpAny _ _ (subscriptTail _ _ _ _) _ _ _); (try dsimp only); (with_reducible show wpAny _ _ (subscriptTail _ _ (Value.ref _) (Value.int _ _)) _ _ _); k_here; k_dflt (refine' item_listM ?k1 ?k2 ?k3 ?k4 ?k5 ?k6 ?_; (case k1 => k_asm); (case k2 => k_mem); (case k3 => assumption); (case k4 | k5 | k6 => omega)); k_whole; intro mq_tp))) | ((fail_if_success with_reducible (first | show wpAny _ _ (call (Value.ref _) _) _ _ _ | show wpAny _ _ (compareOp CmpOp.In _ _) _ _ _ | show wpAny _ _ (compareOp CmpOp.NotEq (Value.ref _) _) _ _ _ | show wpAny _ _ (call (Value.builtin "max") [Value.ref _]) _ _ _ | show wpAny _ _ (exec (Stmt.For _ _ _ _ _) _) _ _ _ | show wpAny _ _ (pyIter _) _ _ _ | show wpAny _ _ (exec (Stmt.Assign _ (Expr.ListComp _ _ _ _) _) _) _ _ _ | show wpAny _ _ (eval (Expr.ListComp _ _ _ _) _) _ _ _ | show LCg.CompSrc _ _ _ _ _ _ _ _ _ _ _ _ _ _ | show LCg.CompEnd _ _ _ _ _ _ _ _ _ _ _ _ _ _ | show LCt.CompSrcT _ _ _ _ _ _ _ _ _ _ _ _ _ _ _)); first | walk1 | (dsimp only; walk1)) | (leave1; try dsimp only) | fail))
    · exact LCg.CompEnd.intro (by k_asm) (by k_asm) _ (fun p hp => hp) off (Or.inr ⟨_, hrV, rfl, _, rfl⟩) ⟨rfl, rows_same (f := colA li) (g := fun t => colA lA t + t) hJ3 hpm (ne_yes (by first | assumption | omega))⟩
    · exact LCg.CompEnd.intro (by k_asm) (by k_asm) _ (fun p hp => hp) off (Or.inr ⟨_, hrV, rfl, _, rfl⟩) ⟨rfl, rows_no (f := colA li) (g := fun t => colA lA t + t) hJ3 (ne_no (by first | assumption | omega))⟩
  · intro zsS nwS hJS
    obtain ⟨rfl, hJS⟩ := hJS
    rw [List.size_toArray, hyr] at hJS
    unfold LCg.FinE
    intro Ds h tk F1 N1 o1
    clear o1
    k_dflt (refine' lw_ne N1 (.tail _ hm12) (.head _) (hr12.mono fun p hp => .tail _ hp) (hJS.mono fun p hp => .tail _ hp) (by ke_room) ?_)
    k_whole
    try dsimp only
    try k_sweep
    try k_fold
    (repeat' (first | (k_unfold; (try dsimp only)) | (k_end; wrow_close) | ((with_reducible show wpAny _ _ (execs (_ :: _) _) _ _ (Shared.mk _ _ _ (_ + 1) _)); (with_reducible refine toks_cut ?_); intro _) | ((((with_reducible show wpAny _ _ (subscriptTail _ _ _ _) _ _ _); (try dsimp only); (with_reducible show wpAny _ _ (subscriptTail _ _ (Value.ref _) (Value.int _ _)) _ _ _); k_here; k_dflt (refine' item_tup3 ?k1 ?k2 ?k4 ?k5 ?k6 ?_; (case k1 => k_asm); (case k2 => k_mem); (case k4 | k5 => decide); (case k6 => exact rfl)); k_whole))) | ((((with_reducible show wpAny _ _ (subscriptTail _ _ _ _) _ _ _); (try dsimp only); (with_reducible show wpAny _ _ (subscriptTail _ _ (Value.ref _) (Value.int _ _)) _ _ _); k_here; k_dflt (refine' item_refM ?k1 ?k2 ?k4 ?k5 ?k6 ?_; (case k1 => k_asm); (case k2 => k_mem); (case k4 | k5 => omega); (case k6 => first | assumption | exact rfl)); k_whole))) | ((((with_reducible show wpAny _ _ (subscriptTail _ _ _ _) _ _ _); (try dsimp only); (with_reducible show wpAny _ _ (subscriptTail _ _ (Value.ref _) (Value.int _ _)) _ _ _); k_here; k_dflt (refine' item_listM ?k1 ?k2 ?k3 ?k4 ?k5 ?k6 ?_; (case k1 => k_asm); (case k2 => k_mem); (case k3 => assumption); (case k4 | k5 | k6 => omega)); k_whole; intro mq_tp))) | ((fail_if_success with_reducible (first | show wpAny _ _ (call (Value.ref _) _) _ _ _ | show wpAny _ _ (compareOp CmpOp.In _ _) _ _ _ | show wpAny _ _ (compareOp CmpOp.NotEq (Value.ref _) _) _ _ _ | show wpAny _ _ (call (Value.builtin "max") [Value.ref _]) _ _ _ | show wpAny _ _ (exec (Stmt.For _ _ _ _ _) _) _ _ _ | show wpAny _ _ (pyIter _) _ _ _ | show wpAny _ _ (exec (Stmt.Assign _ (Expr.ListComp _ _ _ _) _) _) _ _ _ | show wpAny _ _ (eval (Expr.ListComp _ _ _ _) _) _ _ _ | show LCg.CompSrc _ _ _ _ _ _ _ _ _ _ _ _ _ _ | show LCg.CompEnd _ _ _ _ _ _ _ _ _ _ _ _ _ _ | show LCt.CompSrcT _ _ _ _ _ _ _ _ _ _ _ _ _ _ _)); first | walk1 | (dsimp only; walk1)) | (leave1; try dsimp only) | fail))
    refine lt_end (c := ⟨oM, e6.ot, e6.od, oA⟩) (by k_asm) N1 (fun p hp => .tail _ (hYV p (hall p (cons7_mono hRS p hp)))) (fun p hp => .tail _ (hYV p (hall p (cons7_own eS p hp)))) (by exact hoff) (List.forall_mem_cons.mpr ⟨by with_unfolding_all rfl, List.forall_mem_cons.mpr ⟨by with_unfolding_all rfl, List.forall_mem_cons.mpr ⟨by with_unfolding_all rfl, List.forall_mem_cons.mpr ⟨by with_unfolding_all rfl, List.forall_mem_cons.mpr ⟨by with_unfolding_all rfl, List.forall_mem_cons.mpr ⟨by with_unfolding_all rfl, List.forall_mem_cons.mpr ⟨by with_unfolding_all rfl, List.forall_mem_nil _⟩⟩⟩⟩⟩⟩⟩) (by
      intro z h2 h3
      have h4 : z ≠ Str.ofString "rest" ∧ z ≠ Str.ofString "n" ∧ z ≠ Str.ofString "high" ∧ z ≠ Str.ofString "pairs" := by simpa using h3
      obtain ⟨h5, h6, h7, h8⟩ := h4
      simp only [List.forall_mem_cons] at h2
      simp [kstB, h2, h5, h6, h7, h8]) ⟨⟨_, by assumption⟩, ⟨_, dt2⟩, ⟨_, dd2⟩, ⟨_, by assumption⟩⟩
theorem law_main : PySem.Challenge.rw_pk0080_01.Holds := st1.2 ⟨st2.2 ⟨st3.2 ⟨st4.2 ⟨st5.2 ⟨p7⟩⟩ ⟨st6.2 ⟨st8.2 ⟨st9.2 ⟨st10.2 ⟨st11.2 ⟨p12⟩⟩⟩⟩⟩⟩⟩⟩⟩
end Mine
set_option maxRecDepth 100000 in
set_option maxHeartbeats 8000000 in
theorem PySem.Challenge.cw_pk0080_01_holds : PySem.Challenge.rw_pk0080_01.Holds :=
  Mine.law_main
