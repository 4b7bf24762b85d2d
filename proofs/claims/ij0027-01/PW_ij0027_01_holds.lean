import PyProof.Rows.All
import Wide.All
import OpenK.AllK
import Wide.FinOn
import PySem.Challenge.RW_ij0027_01
set_option rowWalk.seconds 0
section
open PySem PySem.W PyProof.Rows
set_option Elab.async false
namespace Mine
/-- a world's two answers -/
def both (r1 r2 : String) (a b : Bool) (w : World) : World := (w.withFollow r1 a).withFollow r2 b
theorem both_self (r1 r2 : String) (w : World) : both r1 r2 (w.params.followText r1) (w.params.followText r2) w = w := by
  unfold both
  rw [World.withFollow_self w r1, World.withFollow_self w r2]
/-- the top, when each of two answers is told apart -/
theorem left_rows {p q : Program} {loose : List Str} {Xt : Shared → Bool} {α : Type} {Yf : Shared → α} {Ya : World → α} {N : Nat} {g0 : Bool} (r1 r2 : String)
    (h : ∀ a b w, (openEnds treeTable p (both r1 r2 a b w) N).map (fun s => (openSeen q loose (importedModules p.main.body) Xt g0 s, Yf s)) = some (openGood q loose, Ya (both r1 r2 a b w))) :
    LeftO p q loose Xt Yf Ya N g0 := fun w => by
  have e := h (w.params.followText r1) (w.params.followText r2) w
  rw [both_self r1 r2 w] at e
  exact e
end Mine
end
section
open PySem PySem.W PyProof.Rows
set_option Elab.async false
set_option linter.unusedVariables false
local macro_rules | `(tactic| first | refine $t:term | fail $s:str) => `(tactic| (refine $t; all_goals contradiction))
namespace Mine
set_option maxRecDepth 100000 in
set_option maxHeartbeats 8000000 in
/-- lays the parts that the head is told with (the view, the heap); it tells nothing -/
theorem pre (h : False) : PySem.Challenge.rw_ij0027_01.Holds := by
  w_on; o_law; k_head
end Mine
end
section
open PySem PySem.W PyProof.Rows
set_option Elab.async false
namespace Mine
abbrev looseV : List Str := [Str.ofString "escape_saxutils", Str.ofString "_twin_re_1", Str.ofString "_special_chars_map", Str.ofString "escape_re"]
noncomputable abbrev hookV : Hook := kmHook Mine.pre.heap_39 [2, 3, 6, 11, 12, 32, 34, 35, 37, 38, 39, 40, 41, 43, 44, 46, 47, 51, 52, 53, 55, 56, 58, 59, 61, 65, 67, 68, 70, 71, 72, 74, 75, 77, 78, 79, 81, 82, 84, 85, 86, 88, 89, 91, 92, 93, 96, 97, 98, 100, 101, 103, 104, 105, 107, 108, 110, 111, 112, 114, 115, 117, 118, 119, 122, 123] (fun _ => by kernel_rfl) [73]
/-- what the text's top leaves, two answers of the world's given -/
abbrev Leaf (a b : Bool) : Prop := ∀ w : World, (openEnds treeTable PySem.Challenge.rw_ij0027_01.row.prog (both "comprehension-iter-twice" "special-get-raises" a b w) 3702).map (fun s => (openSeen Mine.pre.view_39 looseV (importedModules PySem.Challenge.rw_ij0027_01.row.prog.main.body) (fun s => xlAt Mine.pre.view_39 [] s && recOk PySem.Challenge.rw_ij0027_01.row.records s) true s, hookV.obs s)) =
  some (openGood Mine.pre.view_39 looseV, hookV.val (both "comprehension-iter-twice" "special-get-raises" a b w))
set_option maxRecDepth 100000 in
set_option maxHeartbeats 8000000 in
theorem leaf0 : Leaf false false := by intro w; kernel_rfl
set_option maxRecDepth 100000 in
set_option maxHeartbeats 8000000 in
theorem leaf1 : Leaf false true := by intro w; kernel_rfl
set_option maxRecDepth 100000 in
set_option maxHeartbeats 8000000 in
theorem leaf2 : Leaf true false := by intro w; kernel_rfl
set_option maxRecDepth 100000 in
set_option maxHeartbeats 8000000 in
theorem leaf3 : Leaf true true := by intro w; kernel_rfl
theorem leaves : ∀ a b, Leaf a b
  | false, false => leaf0
  | false, true => leaf1
  | true, false => leaf2
  | true, true => leaf3
end Mine
end
section
open PySem PySem.W PyProof.Rows
set_option Elab.async false
local macro_rules | `(tactic| first | refine $t:term | fail $s:str) => `(tactic| (refine $t; case hl => exact Mine.left_rows "comprehension-iter-twice" "special-get-raises" Mine.leaves))
namespace Mine
set_option maxRecDepth 100000 in
set_option maxHeartbeats 8000000 in
open_top hd for PySem.Challenge.rw_ij0027_01
end Mine
end

theorem Mine.quietC0 : True := by
  w_top off
  trivial
section -- C0
open PySem PySem.W PySem.Calls PyProof.Rows PySem.Spec
set_option Elab.async false
namespace Mine

/-- what a call of the def at f with these arguments hands back; d: how deep it calls -/
def Tells (prog : Program) (w : World) (p : Program) (loose : List Str) (mean : ExcName → Option Value) (mg mb : Str → Option Value) (f : Addr) (args : List Value) (d : Nat) (R : Tok → Value) : Prop :=
  ∀ (dp un : Nat) (gd : Option (List Code)) (cn : Str) (cs : Scope) (a : Addr) (ccd : Value) (cl : List (Str × Addr)) (outer : List Env) (A₀ : Around) (base h₀ : Heap) (L : Addr) (m : Str → Option Value) (news : List (Addr × Obj)) (s : Shared) (Q E : Value → Shared → Prop),
    Below A₀ base outer h₀ → Fr h₀ L s.heap m → (hd.heap_39 w.params).In h₀ → News h₀ L s.heap news → Top p loose mean mg mb h₀ → cs.kind = .function → dp + d < recursionLimit → un + 8 * d + 64 < cLine →
    (∀ t h' tk', Fr h₀ L h' m → News h₀ L h' news → Q (R t) { s with heap := h', toks := tk' }) →
    wpAny (model prog w) (ktrTop dp un gd cn cs L a ccd cl outer) (call (.ref f) args) Q E s

/-- fragNow is filled by k_fill, which wants the row in the goal: a goal that names both -/
theorem fillT {P : Prop} (h : (hd.heap_39 = hd.heap_39 ∧ PySem.Challenge.rw_ij0027_01.prog = PySem.Challenge.rw_ij0027_01.prog) → P) : P := h ⟨rfl, rfl⟩
end Mine
end
theorem Mine.quietC2 : True := by
  w_top off
  trivial
section -- C2
open PySem PySem.W PySem.Calls PyProof.Rows PySem.Spec
set_option Elab.async false
set_option maxRecDepth 100000
namespace Mine

/-- a turn's end: the frame, a ledger nx of its own beside what the iterator needs -/
def EndW (h₀ : Heap) (L I : Addr) (J : (Str → Option Value) → List (Addr × Obj) → Prop) (own : List (Addr × Obj)) (s₁ s₂ : Shared) : Prop :=
  ∃ h' tk m' news' nx, s₂ = { s₁ with heap := h', toks := tk } ∧ Fr h₀ L h' m' ∧ News h₀ L h' news' ∧ (∀ p ∈ nx, p ∈ news') ∧ (∀ p ∈ own, p ∈ news') ∧ (∀ q ∈ nx, q.1 ≠ I) ∧ J m' nx
def PostW (h₀ : Heap) (L I : Addr) (J : (Str → Option Value) → List (Addr × Obj) → Prop) (own : List (Addr × Obj)) (s₁ : Shared) (Q : Flow → Shared → Prop) (f : Flow) (s₂ : Shared) : Prop :=
  match f with
  | .ret v => Q (.ret v) s₂
  | .brk => Q .next s₂
  | _ => EndW h₀ L I J own s₁ s₂

section
variable {prog : Program} {w : World} {A : Around} {E : Value → Shared → Prop} {s : Shared} {env : Env} {h₀ : Heap} {x : Str} {body : List Stmt} {Q : Flow → Shared → Prop}

theorem loop_W {I : Addr} {fp : List Addr} {n : Nat} {P : Nat → Value → Prop} {St : Nat → Heap → Prop} {m₀ : Str → Option Value} {news : List (Addr × Obj)} (J : Nat → (Str → Option Value) → List (Addr × Obj) → Prop)
    (W : Walks prog w A I fp [I] n P St) (hlive : ∀ i h, St i h → ∃ o, h.get? I = some o) (hLf : env.locals ∉ fp) (hI : h₀.get? I = none) (hnI : ∀ q ∈ news, q.1 ≠ I) (hst : St 0 s.heap) (F : Fr h₀ env.locals s.heap m₀) (N : News h₀ env.locals s.heap news) (hj : J 0 m₀ news)
    (turn : ∀ i v m₁ news₁ h tk own, i < n → P i v → (∃ o, (I, o) ∈ own) → (∀ q ∈ news₁, q.1 ≠ I) → J i m₁ news₁ → Fr h₀ env.locals h (fun y => if y = x then some v else m₁ y) → News h₀ env.locals h (news₁ ++ own) →
      wpAny (model prog w) A (execs body env) (PostW h₀ env.locals I (J (i + 1)) own { s with heap := h, toks := tk } Q) E { s with heap := h, toks := tk })
    (done : ∀ m₁ news₁ h tk, J n m₁ news₁ → Fr h₀ env.locals h m₁ → News h₀ env.locals h news₁ → Q .next { s with heap := h, toks := tk }) :
    LoopAtV prog w A h₀ env x body Q E (.ref I) s := by
  refine ⟨I, fp, [I], n, P, St, m₀, news, J, rfl, W, hLf, ?_, ?_, hst, F, N, hj, ?_, ?_⟩
  · intro b hb; rw [List.mem_singleton.mp hb]; exact hI
  · intro p hp hq; exact hnI p hp (List.mem_singleton.mp hq)
  · rintro i v m₁ news₁ s₁ own ⟨hh', tk', rfl⟩ hin hP hJ hoff hown hget hfp hst' F₁ N₁
    have N₂ : News h₀ env.locals hh' (news₁ ++ own) := fun p hp => N₁ p ((List.mem_append.mp hp).elim (fun h => List.mem_append.mpr (.inr h)) fun h => List.mem_append.mpr (.inl h))
    obtain ⟨o, ho⟩ := hlive _ _ hst'
    have hIo : (I, o) ∈ own := hfp I (W.sub I (List.mem_singleton.mpr rfl)) hI o ho
    refine wpAny_mono (turn i v m₁ news₁ hh' tk' own hin hP ⟨o, hIo⟩ (fun q hq e => hoff q hq (List.mem_singleton.mpr e)) hJ F₁ N₂) (fun f s₂ p => ?_) fun _ _ e => e
    have fin : EndW h₀ env.locals I (J (i + 1)) own { s with heap := hh', toks := tk' } s₂ → LoopStepU h₀ env.locals [I] own (J (i + 1)) { s with heap := hh', toks := tk' } .next s₂ := by
      rintro ⟨h', tk, m', news', nx, e, F', N', hn, ho, ha, hm⟩
      exact ⟨rfl, h', tk, m', nx, e, F', fun p hp => N' p ((List.mem_append.mp hp).elim (ho p) (hn p)), fun p hp hq => ha p hp (List.mem_singleton.mp hq), hm⟩
    cases f with
    | ret v => exact .ret p
    | brk => exact .brk p
    | next => exact .next (fin p)
    | cont => exact .cont (fin p)
  · rintro h' tk m' news' F' N' _ hJ
    exact done m' news' h' tk hJ F' N'

theorem iterW_str {xt : Str} {tx : Tok} {m₀ : Str → Option Value} {news : List (Addr × Obj)} (J : Nat → (Str → Option Value) → List (Addr × Obj) → Prop)
    (hh : A.handled = none) (F : Fr h₀ env.locals s.heap m₀) (N : News h₀ env.locals s.heap news) (hj : J 0 m₀ news)
    (turn : ∀ I i c t m₁ news₁ h tk own, xt.cps[i]? = some c → (∃ o, (I, o) ∈ own) → (∀ q ∈ news₁, q.1 ≠ I) → J i m₁ news₁ → Fr h₀ env.locals h (fun y => if y = x then some (.str ⟨#[c]⟩ t) else m₁ y) → News h₀ env.locals h (news₁ ++ own) →
      wpAny (model prog w) A (execs body env) (PostW h₀ env.locals I (J (i + 1)) own { s with heap := h, toks := tk } Q) E { s with heap := h, toks := tk })
    (done : ∀ m₁ news₁ h tk, J xt.cps.size m₁ news₁ → Fr h₀ env.locals h m₁ → News h₀ env.locals h news₁ → Q .next { s with heap := h, toks := tk }) :
    wpAny (model prog w) A (pyIter (.str xt tx)) (fun it s₂ => LoopAtV prog w A h₀ env x body Q E it s₂) E s := by
  have main : ∀ (o : Obj) (St : Nat → Heap → Prop), Walks prog w A s.heap.objs.size [s.heap.objs.size] [s.heap.objs.size] xt.cps.size (SignAt xt) St → (∀ i h, St i h → ∃ o, h.get? s.heap.objs.size = some o) → St 0 (s.heap.push o) →
      LoopAtV prog w A h₀ env x body Q E (.ref s.heap.objs.size) { s with heap := s.heap.push o } := by
    intro o St W hlive hst
    refine loop_W J W hlive ?_ (next_is_new F) ?_ hst (F.push _) (fun p hp => ⟨Heap.get?_push_of_some _ (N p hp).1, (N p hp).2⟩) hj ?_ ?_
    · intro hm; exact absurd F.ns.lt ((List.mem_singleton.mp hm) ▸ Nat.lt_irrefl _)
    · intro q hq e; exact absurd (Heap.lt_size (N q hq).1) (e ▸ Nat.lt_irrefl _)
    · rintro i v m₁ news₁ h tk own hin ⟨c, u, hc, rfl⟩ hIo hq hJ F₁ N₁
      exact turn _ i c u m₁ news₁ h tk own hc hIo hq hJ F₁ N₁
    · intro m₁ news₁ h tk hJ F₁ N₁; exact done m₁ news₁ h tk hJ F₁ N₁
  cases ha : xt.cps.all (· < 128)
  · exact wpAny_pyIter_wide ha (main _ _ (Walks.strWide hh _ xt tx) (fun i h st => let ⟨o, ho, _⟩ := st; ⟨o, ho⟩) ⟨_, Heap.get?_push_size _ rfl, rfl, rfl⟩)
  · exact wpAny_pyIter_ascii ha (main _ _ (Walks.strAscii hh _ xt tx) (fun i h st => let ⟨o, ho, _⟩ := st; ⟨o, ho⟩) ⟨_, Heap.get?_push_size _ rfl, rfl, rfl⟩)

/-- a list: of the ledger or of what stood before -/
theorem iterW_list {l : Addr} {vs : List Value} {m₀ : Str → Option Value} {news : List (Addr × Obj)} (J : Nat → (Str → Option Value) → List (Addr × Obj) → Prop)
    (hh : A.handled = none) (hl : s.heap.IsList l vs.toArray) (hlL : l ≠ env.locals) (F : Fr h₀ env.locals s.heap m₀) (N : News h₀ env.locals s.heap news) (hj : J 0 m₀ news)
    (turn : ∀ I i v m₁ news₁ h tk own, vs[i]? = some v → (∃ o, (I, o) ∈ own) → (∀ q ∈ news₁, q.1 ≠ I) → J i m₁ news₁ → Fr h₀ env.locals h (fun y => if y = x then some v else m₁ y) → News h₀ env.locals h (news₁ ++ own) →
      wpAny (model prog w) A (execs body env) (PostW h₀ env.locals I (J (i + 1)) own { s with heap := h, toks := tk } Q) E { s with heap := h, toks := tk })
    (done : ∀ m₁ news₁ h tk, J vs.length m₁ news₁ → Fr h₀ env.locals h m₁ → News h₀ env.locals h news₁ → Q .next { s with heap := h, toks := tk }) :
    wpAny (model prog w) A (pyIter (.ref l)) (fun it s₂ => LoopAtV prog w A h₀ env x body Q E it s₂) E s := by
  obtain ⟨ol, hol, _⟩ := id hl
  have hne : l ≠ s.heap.objs.size := Nat.ne_of_lt (Heap.lt_size hol)
  refine wpAny_pyIter_list hl ?_
  have W := Walks.list (prog := prog) (w := w) hh s.heap.objs.size l hne vs.toArray
  rw [List.size_toArray] at W
  refine loop_W J W (fun i h st => let ⟨⟨o, ho, _⟩, _⟩ := st; ⟨o, ho⟩) ?_ (next_is_new F) ?_ ⟨⟨_, Heap.get?_push_size _ rfl, rfl, rfl⟩, hl.at fun o e => Heap.get?_push_of_some _ e⟩ (F.push _) (fun p hp => ⟨Heap.get?_push_of_some _ (N p hp).1, (N p hp).2⟩) hj ?_ ?_
  · intro hm
    rcases List.mem_cons.mp hm with e | hm
    · exact absurd F.ns.lt (e ▸ Nat.lt_irrefl _)
    · exact hlL (List.mem_singleton.mp hm).symm
  · intro q hq e; exact absurd (Heap.lt_size (N q hq).1) (e ▸ Nat.lt_irrefl _)
  · rintro i v m₁ news₁ h tk own hin hP hIo hq hJ F₁ N₁
    exact turn _ i v m₁ news₁ h tk own (by simpa using hP) hIo hq hJ F₁ N₁
  · intro m₁ news₁ h tk hJ F₁ N₁; exact done m₁ news₁ h tk hJ F₁ N₁

theorem iterW_range {r : Addr} {a₀ b₀ : Int} {t₀ u₀ v₀ : Tok} {n : Nat} {m₀ : Str → Option Value} {news : List (Addr × Obj)} (J : Nat → (Str → Option Value) → List (Addr × Obj) → Prop)
    (hh : A.handled = none) (hr : IsRange s.heap r a₀ b₀ 1 t₀ u₀ v₀) (hsmall : Builtin.Range.small a₀ b₀ 1 = true) (hn : Builtin.Range.rangeSize a₀ b₀ 1 = (n : Int)) (F : Fr h₀ env.locals s.heap m₀) (N : News h₀ env.locals s.heap news) (hj : J 0 m₀ news)
    (turn : ∀ I i t m₁ news₁ h tk own, i < n → (∃ o, (I, o) ∈ own) → (∀ q ∈ news₁, q.1 ≠ I) → J i m₁ news₁ → Fr h₀ env.locals h (fun y => if y = x then some (.int (a₀ + (i : Int)) t) else m₁ y) → News h₀ env.locals h (news₁ ++ own) →
      wpAny (model prog w) A (execs body env) (PostW h₀ env.locals I (J (i + 1)) own { s with heap := h, toks := tk } Q) E { s with heap := h, toks := tk })
    (done : ∀ m₁ news₁ h tk, J n m₁ news₁ → Fr h₀ env.locals h m₁ → News h₀ env.locals h news₁ → Q .next { s with heap := h, toks := tk }) :
    wpAny (model prog w) A (pyIter (.ref r)) (fun it s₂ => LoopAtV prog w A h₀ env x body Q E it s₂) E s := by
  refine wpAny_pyIter_range hr hsmall ?_
  have W := Walks.range (prog := prog) (w := w) hh s.heap.objs.size a₀ 1 n
  refine loop_W J W (fun i h st => ⟨_, st⟩) ?_ (next_is_new F) ?_ (by show IsRangeIter _ _ _ _ _; rw [hn]; simpa using Heap.get?_push_size _ rfl) (F.push _) (fun p hp => ⟨Heap.get?_push_of_some _ (N p hp).1, (N p hp).2⟩) hj ?_ ?_
  · intro hm; exact absurd F.ns.lt ((List.mem_singleton.mp hm) ▸ Nat.lt_irrefl _)
  · intro q hq e; exact absurd (Heap.lt_size (N q hq).1) (e ▸ Nat.lt_irrefl _)
  · rintro i v m₁ news₁ h tk own hin ⟨t, rfl⟩ hIo hq hJ F₁ N₁
    have e1 : a₀ + (i : Int) * 1 = a₀ + (i : Int) := by omega
    rw [e1] at F₁
    exact turn _ i t m₁ news₁ h tk own hin hIo hq hJ F₁ N₁
  · intro m₁ news₁ h tk hJ F₁ N₁; exact done m₁ news₁ h tk hJ F₁ N₁
end
end Mine
end
theorem Mine.quietC3 : True := by
  w_top off
  trivial
section -- C3
open PySem PySem.W PySem.Calls PyProof.Rows PySem.Spec
set_option Elab.async false
set_option maxRecDepth 100000
namespace Mine

def StS {σ : Type} (Led : σ → List (Addr × Obj)) (ps : σ → List (Str × Value)) (x : Str) (forg : List Str) (m₀ : Str → Option Value) (P : Nat → σ → Prop) (i : Nat) (m : Str → Option Value) (nx : List (Addr × Obj)) : Prop :=
  ∃ c : σ, nx = Led c ∧ (∀ p ∈ ps c, m p.1 = some p.2) ∧ (∀ z, z ≠ x → (∀ p ∈ ps c, z ≠ p.1) → forg.contains z = false → m z = m₀ z) ∧ P i c

theorem endS {σ : Type} {Led : σ → List (Addr × Obj)} {ps : σ → List (Str × Value)} {x : Str} {forg : List Str} {m₀ m' : Str → Option Value} {P : Nat → σ → Prop} {i : Nat} {h₀ h' : Heap} {L I : Addr} {own news' : List (Addr × Obj)} {s₁ : Shared} {tk : Nat} (c : σ)
    (F : Fr h₀ L h' m') (N : News h₀ L h' news') (hn : ∀ p ∈ Led c, p ∈ news') (ho : ∀ p ∈ own, p ∈ news') (hi : ∀ q ∈ Led c, q.1 ≠ I) (hk : ∀ p ∈ ps c, m' p.1 = some p.2)
    (hr : ∀ z, z ≠ x → (∀ p ∈ ps c, z ≠ p.1) → forg.contains z = false → m' z = m₀ z) (hp : P i c) :
    EndW h₀ L I (StS Led ps x forg m₀ P i) own s₁ { s₁ with heap := h', toks := tk } := ⟨h', tk, m', news', Led c, rfl, F, N, hn, ho, hi, c, rfl, hk, hr, hp⟩

section
variable {prog : Program} {w : World} {A : Around} {E : Value → Shared → Prop} {s : Shared} {env : Env} {h₀ : Heap} {x : Str} {body : List Stmt} {Q : Flow → Shared → Prop}

theorem iterS_list {σ : Type} {l : Addr} {vs : List Value} {m₀ : Str → Option Value} (Led : σ → List (Addr × Obj)) (ps : σ → List (Str × Value)) (forg : List Str) (P : Nat → σ → Prop) (c₀ : σ)
    (hh : A.handled = none) (hl : s.heap.IsList l vs.toArray) (hlL : l ≠ env.locals) (F : Fr h₀ env.locals s.heap m₀) (N : News h₀ env.locals s.heap (Led c₀)) (hk : ∀ p ∈ ps c₀, m₀ p.1 = some p.2) (hp : P 0 c₀)
    (turn : ∀ I i v c (u : Str → Option Value) h tk own, vs[i]? = some v → (∃ o, (I, o) ∈ own) → (∀ q ∈ Led c, q.1 ≠ I) → P i c →
      Fr h₀ env.locals h (fun y => if y = x then some v else kstB (fun z => if forg.contains z then u z else m₀ z) (ps c) y) → News h₀ env.locals h (Led c ++ own) →
      wpAny (model prog w) A (execs body env) (PostW h₀ env.locals I (StS Led ps x forg m₀ P (i + 1)) own { s with heap := h, toks := tk } Q) E { s with heap := h, toks := tk })
    (done : ∀ c (u : Str → Option Value) h tk, P vs.length c → Fr h₀ env.locals h (fun y => if y = x then u y else kstB (fun z => if forg.contains z then u z else m₀ z) (ps c) y) → News h₀ env.locals h (Led c) → Q .next { s with heap := h, toks := tk }) :
    wpAny (model prog w) A (pyIter (.ref l)) (fun it s₂ => LoopAtV prog w A h₀ env x body Q E it s₂) E s := by
  refine iterW_list (StS Led ps x forg m₀ P) hh hl hlL F N ⟨c₀, rfl, hk, fun _ _ _ _ => rfl, hp⟩ ?_ ?_
  · rintro I i v m₁ nx h tk own hv hIo hq ⟨c, rfl, h1, h2, hp'⟩ F₁ N₁
    exact turn I i v c m₁ h tk own hv hIo hq hp' (kst_fr h1 h2 F₁) N₁
  · rintro m₁ nx h tk ⟨c, rfl, h1, h2, hp'⟩ F₁ N₁
    exact done c m₁ h tk hp' (kst_frOut h1 h2 F₁) N₁

theorem iterS_str {σ : Type} {xt : Str} {tx : Tok} {m₀ : Str → Option Value} (Led : σ → List (Addr × Obj)) (ps : σ → List (Str × Value)) (forg : List Str) (P : Nat → σ → Prop) (c₀ : σ)
    (hh : A.handled = none) (F : Fr h₀ env.locals s.heap m₀) (N : News h₀ env.locals s.heap (Led c₀)) (hk : ∀ p ∈ ps c₀, m₀ p.1 = some p.2) (hp : P 0 c₀)
    (turn : ∀ I i ch t c (u : Str → Option Value) h tk own, xt.cps[i]? = some ch → (∃ o, (I, o) ∈ own) → (∀ q ∈ Led c, q.1 ≠ I) → P i c →
      Fr h₀ env.locals h (fun y => if y = x then some (.str ⟨#[ch]⟩ t) else kstB (fun z => if forg.contains z then u z else m₀ z) (ps c) y) → News h₀ env.locals h (Led c ++ own) →
      wpAny (model prog w) A (execs body env) (PostW h₀ env.locals I (StS Led ps x forg m₀ P (i + 1)) own { s with heap := h, toks := tk } Q) E { s with heap := h, toks := tk })
    (done : ∀ c (u : Str → Option Value) h tk, P xt.cps.size c → Fr h₀ env.locals h (fun y => if y = x then u y else kstB (fun z => if forg.contains z then u z else m₀ z) (ps c) y) → News h₀ env.locals h (Led c) → Q .next { s with heap := h, toks := tk }) :
    wpAny (model prog w) A (pyIter (.str xt tx)) (fun it s₂ => LoopAtV prog w A h₀ env x body Q E it s₂) E s := by
  refine iterW_str (StS Led ps x forg m₀ P) hh F N ⟨c₀, rfl, hk, fun _ _ _ _ => rfl, hp⟩ ?_ ?_
  · rintro I i ch t m₁ nx h tk own hv hIo hq ⟨c, rfl, h1, h2, hp'⟩ F₁ N₁
    exact turn I i ch t c m₁ h tk own hv hIo hq hp' (kst_fr h1 h2 F₁) N₁
  · rintro m₁ nx h tk ⟨c, rfl, h1, h2, hp'⟩ F₁ N₁
    exact done c m₁ h tk hp' (kst_frOut h1 h2 F₁) N₁

theorem iterS_range {σ : Type} {r : Addr} {a₀ b₀ : Int} {t₀ u₀ v₀ : Tok} {n : Nat} {m₀ : Str → Option Value} (Led : σ → List (Addr × Obj)) (ps : σ → List (Str × Value)) (forg : List Str) (P : Nat → σ → Prop) (c₀ : σ)
    (hh : A.handled = none) (hr : IsRange s.heap r a₀ b₀ 1 t₀ u₀ v₀) (hsmall : Builtin.Range.small a₀ b₀ 1 = true) (hn : Builtin.Range.rangeSize a₀ b₀ 1 = (n : Int)) (F : Fr h₀ env.locals s.heap m₀) (N : News h₀ env.locals s.heap (Led c₀)) (hk : ∀ p ∈ ps c₀, m₀ p.1 = some p.2) (hp : P 0 c₀)
    (turn : ∀ I i t c (u : Str → Option Value) h tk own, i < n → (∃ o, (I, o) ∈ own) → (∀ q ∈ Led c, q.1 ≠ I) → P i c →
      Fr h₀ env.locals h (fun y => if y = x then some (.int (a₀ + (i : Int)) t) else kstB (fun z => if forg.contains z then u z else m₀ z) (ps c) y) → News h₀ env.locals h (Led c ++ own) →
      wpAny (model prog w) A (execs body env) (PostW h₀ env.locals I (StS Led ps x forg m₀ P (i + 1)) own { s with heap := h, toks := tk } Q) E { s with heap := h, toks := tk })
    (done : ∀ c (u : Str → Option Value) h tk, P n c → Fr h₀ env.locals h (fun y => if y = x then u y else kstB (fun z => if forg.contains z then u z else m₀ z) (ps c) y) → News h₀ env.locals h (Led c) → Q .next { s with heap := h, toks := tk }) :
    wpAny (model prog w) A (pyIter (.ref r)) (fun it s₂ => LoopAtV prog w A h₀ env x body Q E it s₂) E s := by
  refine iterW_range (StS Led ps x forg m₀ P) hh hr hsmall hn F N ⟨c₀, rfl, hk, fun _ _ _ _ => rfl, hp⟩ ?_ ?_
  · rintro I i t m₁ nx h tk own hv hIo hq ⟨c, rfl, h1, h2, hp'⟩ F₁ N₁
    exact turn I i t c m₁ h tk own hv hIo hq hp' (kst_fr h1 h2 F₁) N₁
  · rintro m₁ nx h tk ⟨c, rfl, h1, h2, hp'⟩ F₁ N₁
    exact done c m₁ h tk hp' (kst_frOut h1 h2 F₁) N₁
end

end Mine
namespace Mine
open PySem PySem.W PySem.Calls PyProof.Rows PySem.Spec
theorem lookup_kstB (l : List (Str × Value)) : (fun y => l.lookup y) = kstB (fun _ => none) l := by
  funext y
  induction l with
  | nil => rfl
  | cons p r ih =>
    show (match y == p.1 with | true => some p.2 | false => r.lookup y) = if y = p.1 then some p.2 else kstB (fun _ => none) r y
    by_cases h : y = p.1
    · rw [if_pos h, h]; simp
    · rw [if_neg h, ← ih]
      have : (y == p.1) = false := by simpa using h
      rw [this]
theorem fr_clean {g h : Heap} {L : Addr} {l : List (Str × Value)} (l' : List (Str × Value)) (e : l = l') (F : Fr g L h (fun y => l.lookup y)) : Fr g L h (kstB (fun _ => none) l') := by
  subst e; rw [← lookup_kstB]; exact F
end Mine
namespace Mine
/-- a stop for the walk -/
def StopHere (P : Prop) : Prop := P
theorem stop_of {P : Prop} (h : StopHere P) : P := h
end Mine
namespace Mine
open PySem PySem.W PySem.Calls PyProof.Rows PySem.Spec
theorem tells_use {prog : Program} {w : World} {p : Program} {loose : List Str} {mean : ExcName → Option Value} {mg mb : Str → Option Value} {f : Addr} {args : List Value} {d : Nat} {R : Tok → Value}
    {dp un : Nat} {gd : Option (List Code)} {cn : Str} {cs : Scope} {a : Addr} {ccd : Value} {cl : List (Str × Addr)} {outer : List Env} {A₀ : Around} {base h₀ : Heap} {L : Addr} {m : Str → Option Value} {news : List (Addr × Obj)} {s : Shared} {Q E : Value → Shared → Prop}
    (B : Below A₀ base outer h₀) (F : Fr h₀ L s.heap m) (X : (hd.heap_39 w.params).In h₀) (N : News h₀ L s.heap news) (T : Top p loose mean mg mb h₀) (hk : cs.kind = .function) (C : Tells prog w p loose mean mg mb f args d R) (hd : dp + d < recursionLimit) (hu : un + 8 * d + 64 < cLine)
    (ret : ∀ t h' tk', Fr h₀ L h' m → News h₀ L h' news → Q (R t) { s with heap := h', toks := tk' }) :
    wpAny (model prog w) (ktrTop dp un gd cn cs L a ccd cl outer) (call (.ref f) args) Q E s := C _ _ _ _ _ _ _ _ _ _ _ _ _ _ _ _ _ _ B F X N T hk hd hu ret
end Mine
end
open PySem PySem.W PySem.Calls PyProof.Rows PySem.Spec
set_option Elab.async false
set_option maxRecDepth 100000
set_option linter.unusedVariables false
set_option linter.unusedSimpArgs false
local macro_rules | `(tactic| walk_at "KswEnd") => `(tactic| (refine Mine.stop_of ?_))
local macro_rules | `(tactic| walk_at "exec While Compare cons nil") => `(tactic| (refine Mine.stop_of ?_))
local macro_rules | `(tactic| walk_at "exec While BoolOp cons nil") => `(tactic| (refine Mine.stop_of ?_))
local macro_rules | `(tactic| walk_at "exec For Name Subscript cons nil") => `(tactic| (refine Mine.stop_of ?_))
local macro_rules | `(tactic| walk_at "exec For Name Name cons nil") => `(tactic| (refine Mine.stop_of ?_))
local macro_rules | `(tactic| walk_at "exec For Name Call cons nil") => `(tactic| (refine Mine.stop_of ?_))
local macro_rules | `(tactic| walk_at "pyIter ref") => `(tactic| (refine Mine.stop_of ?_))
local macro_rules | `(tactic| walk_at "pyIter str") => `(tactic| (refine Mine.stop_of ?_))
local macro_rules | `(tactic| walk_at "exec Assign cons ListComp") => `(tactic| (refine Mine.stop_of ?_))
local macro_rules | `(tactic| walk_at "eval ListComp") => `(tactic| (refine Mine.stop_of ?_))
local macro_rules | `(tactic| walk_at "compareOp In int ref") => `(tactic| (refine Mine.stop_of ?_))
local macro_rules | `(tactic| walk_at "call builtin:str.replace") => `(tactic| (refine Mine.stop_of ?_))
local macro_rules | `(tactic| k_ne) => `(tactic| (refine neN ?_; (try dsimp only); first | assumption | (refine Ne.symm ?_; assumption) | (refine Nat.ne_of_lt ?_; assumption) | (refine Nat.ne_of_gt ?_; assumption) | exact Nat.ne_of_gt (Nat.lt_succ_self _) | exact Nat.ne_of_lt (Nat.lt_succ_self _) | exact Nat.ne_of_gt (Nat.lt_succ_of_lt (Nat.lt_succ_self _)) | exact Nat.ne_of_lt (Nat.lt_succ_of_lt (Nat.lt_succ_self _)) | exact Nat.ne_of_gt (Nat.lt_succ_of_lt (Nat.lt_succ_of_lt (Nat.lt_succ_self _))) | exact Nat.ne_of_lt (Nat.lt_succ_of_lt (Nat.lt_succ_of_lt (Nat.lt_succ_self _))) | exact Nat.ne_of_gt (Nat.lt_succ_of_lt (Nat.lt_succ_of_lt (Nat.lt_succ_of_lt (Nat.lt_succ_self _)))) | exact Nat.ne_of_lt (Nat.lt_succ_of_lt (Nat.lt_succ_of_lt (Nat.lt_succ_of_lt (Nat.lt_succ_self _)))) | omega))
local macro_rules | `(tactic| walk_at "PostW") => `(tactic| (dsimp only [Mine.PostW]))
section -- T1
namespace Mine
open PySem.Builtin.Str PySem.StrLaws
/-- a text by its codes -/
abbrev tx (l : List Nat) : Str := ⟨l.toArray⟩
theorem tx_len (l : List Nat) : (tx l).length = l.length := by simp [Str.length]
theorem tx_of (x : Str) : x = tx x.cps.toList := by cases x; simp
theorem tx_inj {a b : List Nat} (h : tx a = tx b) : a = b := by
  have := congrArg (fun x : Str => x.cps.toList) h; simpa using this
theorem tx_beq (a b : List Nat) : (tx a == tx b) = (a == b) := by
  by_cases h : a = b
  · subst h; simp
  · have : tx a ≠ tx b := fun e => h (tx_inj e)
    rw [beq_eq_false_iff_ne.mpr this, beq_eq_false_iff_ne.mpr h]
theorem idx_clip (a b : Int) (n : Nat) (ha : 0 ≤ a) (hb : 0 ≤ b) : strSliceIndices (some a) (some b) 1 n = strSliceIndices (some (min a n)) (some (min b n)) 1 n := by
  have h1 : ¬ (a < 0) := by omega
  have h2 : ¬ (b < 0) := by omega
  have h3 : ¬ (min a (n : Int) < 0) := by omega
  have h4 : ¬ (min b (n : Int) < 0) := by omega
  have e1 : max (0 : Int) (min (min a (n : Int)) (n : Int)) = max 0 (min a (n : Int)) := by omega
  have e2 : max (0 : Int) (min (min b (n : Int)) (n : Int)) = max 0 (min b (n : Int)) := by omega
  simp only [strSliceIndices, h1, h2, h3, h4, if_false, show ((1 : Int) > 0) = True from by simp, if_true, e1, e2]
theorem toNat_subN {a b : Int} (h0 : 0 ≤ a) (hab : a ≤ b) : (b - a).toNat = b.toNat - a.toNat := by omega
theorem slice_ab (l : List Nat) {a b : Int} (h0 : 0 ≤ a) (hab : a ≤ b) : Txt.slice (tx l) (some a) (some b) = tx ((l.drop a.toNat).take (b.toNat - a.toNat)) := by
  have e : Txt.slice (tx l) (some a) (some b) = Txt.slice (tx l) (some (min a (l.length : Int))) (some (min b (l.length : Int))) := by
    unfold Txt.slice
    rw [tx_len, idx_clip a b l.length h0 (by omega)]
  rw [e]
  have h := sliceText_plain (x := tx l) (i := min a (l.length : Int)) (j := min b (l.length : Int)) ⟨by omega, by omega, by simp; omega⟩
  have h' : Txt.slice (tx l) (some (min a (l.length : Int))) (some (min b (l.length : Int))) = _ := h
  rw [h']
  congr 2
  simp only
  have hL : (0 : Int) ≤ l.length := Int.natCast_nonneg _
  by_cases hb : b ≤ l.length
  · rw [Int.min_eq_left hb, Int.min_eq_left (Int.le_trans hab hb), toNat_subN h0 hab]
  · have hb' := Int.le_of_lt (Int.not_le.mp hb)
    rw [Int.min_eq_right hb']
    by_cases ha : a ≤ l.length
    · rw [Int.min_eq_left ha, toNat_subN h0 ha, Int.toNat_natCast, List.take_of_length_le (Nat.le_of_eq (List.length_drop ..)), List.take_of_length_le]
      rw [List.length_drop]
      exact Nat.sub_le_sub_right (Int.le_toNat (Int.le_trans h0 hab) |>.mpr hb') _
    · have ha' := Int.le_of_lt (Int.not_le.mp ha)
      rw [Int.min_eq_right ha', Int.toNat_natCast, List.drop_length, List.drop_of_length_le ((Int.le_toNat h0).mpr ha')]
      simp
theorem slice_to (l : List Nat) {b : Int} (h0 : 0 ≤ b) : Txt.slice (tx l) none (some b) = tx (l.take b.toNat) := by
  have e : Txt.slice (tx l) none (some b) = Txt.slice (tx l) (some 0) (some b) := by unfold Txt.slice; rw [sliceIdx_none_lo]
  rw [e, slice_ab l (Int.le_refl 0) h0]; simp
theorem slice_from (l : List Nat) {a : Int} (h0 : 0 ≤ a) : Txt.slice (tx l) (some a) none = tx (l.drop a.toNat) := by
  have e : Txt.slice (tx l) (some a) none = Txt.slice (tx l) (some a) (some (l.length : Int)) := by unfold Txt.slice; rw [sliceIdx_none_hi, tx_len]
  rw [e]
  by_cases h : a ≤ l.length
  · rw [slice_ab l h0 h, List.take_of_length_le (by simp)]
  · have e2 : Txt.slice (tx l) (some a) (some (l.length : Int)) = Txt.slice (tx l) (some (l.length : Int)) (some (l.length : Int)) := by
      unfold Txt.slice
      rw [tx_len, idx_clip a _ l.length h0 (by omega), idx_clip (l.length : Int) _ l.length (by omega) (by omega)]
      have e3 : min a (l.length : Int) = min (l.length : Int) (l.length : Int) := by omega
      rw [e3]
    rw [e2, slice_ab l (by omega) (Int.le_refl _), List.drop_of_length_le (by omega : l.length ≤ a.toNat)]; simp
theorem slice_neg_hi (l : List Nat) (a : Option Int) {b : Int} (h0 : b < 0) (h1 : -(l.length : Int) ≤ b) : Txt.slice (tx l) a (some b) = Txt.slice (tx l) a (some (b + l.length)) := by
  unfold Txt.slice; rw [tx_len, sliceIdx_neg_hi a l.length h0 h1]
theorem slice_neg_lo (l : List Nat) (b : Option Int) {a : Int} (h0 : a < 0) (h1 : -(l.length : Int) ≤ a) : Txt.slice (tx l) (some a) b = Txt.slice (tx l) (some (a + l.length)) b := by
  unfold Txt.slice; rw [tx_len, sliceIdx_neg_lo b l.length h0 h1]
theorem sl_nat (l : List Nat) (k n : Nat) {b : Int} (hb : b = (k : Int) + (n : Int)) : Txt.slice (tx l) (some (k : Int)) (some b) = tx ((l.drop k).take n) := by
  subst hb
  rw [slice_ab l (by omega) (by omega)]
  have e1 : ((k : Int)).toNat = k := by omega
  have e2 : ((k : Int) + (n : Int)).toNat - k = n := by omega
  rw [e1, e2]
theorem it_nat (l : List Nat) {i : Int} {c : Nat} (h0 : 0 ≤ i) (h : l[i.toNat]? = some c) : Txt.item (tx l) i = tx [c] := by
  have := PyProof.Rows.item_meets (x := tx l) (i := i) (n := c) h0 (by simpa using h)
  exact this
end Mine
end
section -- D1
namespace Mine
/-- an item of a run: any sign, or a written one -/
abbrev Item := Option Nat
def litE (c : Nat) : List Nat := if c = 38 ∨ c = 46 then [92, c] else [c]
def itemE (mk : List Nat) : Item → List Nat
  | none => mk
  | some c => litE c
def encE (mk : List Nat) (xs : List Item) : List Nat := xs.flatMap (itemE mk)
theorem encE_cons (mk : List Nat) (x : Item) (r : List Item) : encE mk (x :: r) = itemE mk x ++ encE mk r := by simp [encE]
theorem encE_nil (mk : List Nat) : encE mk [] = [] := rfl
theorem encE_append (mk : List Nat) (a b : List Item) : encE mk (a ++ b) = encE mk a ++ encE mk b := by simp [encE]
def oneF (mark name : Str) (i : Int) : Int :=
  if mark == Str.ofString "." then ((Txt.slice name (some i) (some (i + 1))).length : Int)
  else if Txt.slice name (some i) (some (i + 5)) == Str.ofString "&amp;" then 5
  else if Txt.slice name (some i) (some (i + 4)) == Str.ofString "&lt;" then 4
  else if Txt.slice name (some i) (some (i + 4)) == Str.ofString "&gt;" then 4
  else if (Builtin.Str.occurrences (Str.ofString "&aglmpt;") (Txt.slice name (some i) (some (i + 1))) 0 (Str.ofString "&aglmpt;").length 1).isEmpty then 1 else 0
def stepF (mark : Str) (nm : List Nat) (i : Int) : Item → Int
  | none => oneF mark (tx nm) i
  | some c => if nm[i.toNat]? = some c then 1 else 0
def runG (mark : Str) (nm : List Nat) : List Item → Int → Int
  | [], i => i
  | x :: r, i => if stepF mark nm i x = 0 then -1 else runG mark nm r (i + stepF mark nm i x)
/-- the marks that are used: no written item looks like one -/
def MarkOk (mk : List Nat) (xs : List Item) : Prop := ∃ m0 mr, mk = m0 :: mr ∧ m0 ≠ 92 ∧ mk.length ≤ 40 ∧ ∀ c, some c ∈ xs → c ≠ 92 ∧ (c = 38 ∨ c = 46 ∨ c ≠ m0)
theorem litE_len (c : Nat) : 1 ≤ (litE c).length ∧ (litE c).length ≤ 2 := by unfold litE; split <;> simp
theorem itemE_len (mk : List Nat) (x : Item) (h : 1 ≤ mk.length) (h' : mk.length ≤ 40) : 1 ≤ (itemE mk x).length ∧ (itemE mk x).length ≤ 40 := by
  cases x with
  | none => exact ⟨h, h'⟩
  | some c => have := litE_len c; simp only [itemE]; omega
theorem encE_len (mk : List Nat) (h' : mk.length ≤ 40) : ∀ xs : List Item, (encE mk xs).length ≤ 40 * xs.length
  | [] => by simp [encE]
  | x :: r => by
    have ih := encE_len mk h' r
    have : (itemE mk x).length ≤ 40 := by
      cases x with
      | none => exact h'
      | some c => have := litE_len c; simp only [itemE]; omega
    rw [encE_cons, List.length_append, List.length_cons]; omega
theorem encE_split (mk : List Nat) (xs : List Item) (j : Nat) : encE mk xs = encE mk (xs.take j) ++ encE mk (xs.drop j) := by rw [← encE_append, List.take_append_drop]
theorem drop_enc (mk : List Nat) (xs : List Item) (j : Nat) : (encE mk xs).drop (encE mk (xs.take j)).length = encE mk (xs.drop j) := by
  have h := encE_split mk xs j
  calc (encE mk xs).drop (encE mk (xs.take j)).length = (encE mk (xs.take j) ++ encE mk (xs.drop j)).drop (encE mk (xs.take j)).length := by rw [← h]
    _ = _ := by simp
theorem enc_take_succ (mk : List Nat) (xs : List Item) {j : Nat} {x : Item} (h : xs[j]? = some x) : encE mk (xs.take (j + 1)) = encE mk (xs.take j) ++ itemE mk x := by
  rw [List.take_add_one, h, encE_append]; simp [encE]
theorem drop_item {xs : List Item} {j : Nat} {x : Item} (h : xs[j]? = some x) : xs.drop j = x :: xs.drop (j + 1) := by
  obtain ⟨hl, rfl⟩ := List.getElem?_eq_some_iff.mp h
  rw [List.drop_eq_getElem_cons hl]
theorem len_of_beq {l : List Nat} {y : Str} (h : (tx l == y) = true) : l.length = y.length := by
  have := eq_of_beq h; rw [← this, tx_len]
theorem oneF_bd (mark : Str) (nm : List Nat) (i : Int) (h0 : 0 ≤ i) (h1 : i ≤ nm.length) : 0 ≤ oneF mark (tx nm) i ∧ i + oneF mark (tx nm) i ≤ nm.length := by
  have e1 : Txt.slice (tx nm) (some i) (some (i + 1)) = tx ((nm.drop i.toNat).take 1) := by
    rw [slice_ab nm h0 (by omega)]; congr 2; congr 1; omega
  have e5 : Txt.slice (tx nm) (some i) (some (i + 5)) = tx ((nm.drop i.toNat).take 5) := by
    rw [slice_ab nm h0 (by omega)]; congr 2; congr 1; omega
  have e4 : Txt.slice (tx nm) (some i) (some (i + 4)) = tx ((nm.drop i.toNat).take 4) := by
    rw [slice_ab nm h0 (by omega)]; congr 2; congr 1; omega
  have l5 : (Str.ofString "&amp;").length = 5 := by decide +kernel
  have l4 : (Str.ofString "&lt;").length = 4 := by decide +kernel
  have l4' : (Str.ofString "&gt;").length = 4 := by decide +kernel
  unfold oneF
  rw [e1, e5, e4]
  split
  · rw [tx_len, List.length_take, List.length_drop]; omega
  · split
    · rename_i h
      have := len_of_beq h
      rw [List.length_take, List.length_drop, l5] at this; omega
    · split
      · rename_i h
        have := len_of_beq h
        rw [List.length_take, List.length_drop, l4] at this; omega
      · split
        · rename_i h
          have := len_of_beq h
          rw [List.length_take, List.length_drop, l4'] at this; omega
        · split
          · rename_i h
            by_cases hi : i < nm.length
            · omega
            · exfalso
              have hd : (nm.drop i.toNat).take 1 = [] := by rw [List.drop_of_length_le (by omega)]; rfl
              rw [hd] at h
              have := (PySem.StrLaws.found_iff (Str.ofString "&aglmpt;") (tx [])).mpr ⟨0, by simp [Str.length], by
                rw [PySem.StrLaws.subAt_eq]; simp [Str.length]⟩
              rw [h] at this
              cases this
          · omega
end Mine
end
section -- D2
namespace Mine
theorem pick_from1 (vs : List Value) : slicePick vs.toArray (some 1) none none = (vs.drop 1).toArray := by
  rw [kms_pick_eq]
  show (kms_pick vs (some 1) none).toArray = _
  unfold kms_pick kms_lo kms_hi
  simp only [show ¬ ((1 : Int) < 0) by decide, if_false]
  congr 1
  show List.take (vs.length - min (1 : Int).toNat vs.length) (vs.drop (min (1 : Int).toNat vs.length)) = _
  have e : (1 : Int).toNat = 1 := rfl
  rw [e]
  cases vs with
  | nil => rfl
  | cons v r => simp
theorem pick_to8 (vs : List Value) : slicePick vs.toArray none (some 8) none = (vs.take 8).toArray := by
  rw [kms_pick_eq]
  show (kms_pick vs none (some 8)).toArray = _
  unfold kms_pick kms_lo kms_hi
  simp only [show ¬ ((8 : Int) < 0) by decide, if_false]
  congr 1
  show List.take (min (8 : Int).toNat vs.length - 0) (vs.drop 0) = _
  have e : (8 : Int).toNat = 8 := rfl
  rw [e, List.drop_zero, Nat.sub_zero]
  exact kmk_take_min vs 8
/-- a group: the first place where its run fits -/
def searchG (mark : Str) (nm : List Nat) (m : List Item) : Nat → Int → Int
  | 0, _ => -1
  | f + 1, b => if runG mark nm m b < 0 then searchG mark nm m f (b + 1) else runG mark nm m b
def srch (mark : Str) (nm : List Nat) (m : List Item) (b : Int) : Int := if b < 0 then -1 else searchG mark nm m ((nm.length : Int) + 1 - b).toNat b
def finG (mark : Str) (nm : List Nat) (m : List Item) (pl : Int) : Bool := (List.range ((nm.length : Int) + 1 - pl).toNat).any fun j => runG mark nm m (pl + j) == nm.length
def midsG (mark : Str) (nm : List Nat) (mids : List (List Item)) (pl : Int) : Int := mids.foldl (fun pl m => srch mark nm m pl) pl
def takesG (mark : Str) (nm : List Nat) (seg0 : List Item) (mids : List (List Item)) (last : List Item) : Bool :=
  if midsG mark nm mids (runG mark nm seg0 0) < 0 then false else finG mark nm last (midsG mark nm mids (runG mark nm seg0 0))
theorem runG_bd (mark : Str) (nm : List Nat) : ∀ (xs : List Item) (i : Int), 0 ≤ i → i ≤ nm.length → runG mark nm xs i = -1 ∨ (i ≤ runG mark nm xs i ∧ runG mark nm xs i ≤ nm.length)
  | [], i, h0, h1 => .inr ⟨Int.le_refl _, h1⟩
  | x :: r, i, h0, h1 => by
    show (if stepF mark nm i x = 0 then -1 else runG mark nm r (i + stepF mark nm i x)) = -1 ∨ _
    have hst : 0 ≤ stepF mark nm i x ∧ i + stepF mark nm i x ≤ nm.length := by
      cases x with
      | none => exact oneF_bd mark nm i h0 h1
      | some c =>
        show 0 ≤ (if nm[i.toNat]? = some c then (1 : Int) else 0) ∧ i + (if nm[i.toNat]? = some c then (1 : Int) else 0) ≤ nm.length
        split
        · rename_i h
          obtain ⟨hl, _⟩ := List.getElem?_eq_some_iff.mp h
          omega
        · omega
    have e : runG mark nm (x :: r) i = if stepF mark nm i x = 0 then -1 else runG mark nm r (i + stepF mark nm i x) := rfl
    rw [e]
    split
    · exact .inl rfl
    · rename_i hz
      rcases runG_bd mark nm r (i + stepF mark nm i x) (by omega) hst.2 with h | h
      · exact .inl h
      · exact .inr ⟨by omega, h.2⟩
theorem srch_neg (mark : Str) (nm : List Nat) (m : List Item) {b : Int} (h : b < 0) : srch mark nm m b = -1 := if_pos h
theorem srch_past (mark : Str) (nm : List Nat) (m : List Item) {b : Int} (h : (nm.length : Int) < b) : srch mark nm m b = -1 := by
  unfold srch
  split
  · rfl
  · have : ((nm.length : Int) + 1 - b).toNat = 0 := by omega
    rw [this]; rfl
theorem srch_step (mark : Str) (nm : List Nat) (m : List Item) {b : Int} (h0 : 0 ≤ b) (h1 : b ≤ nm.length) : srch mark nm m b = if runG mark nm m b < 0 then srch mark nm m (b + 1) else runG mark nm m b := by
  have e1 : srch mark nm m b = searchG mark nm m ((nm.length : Int) + 1 - b).toNat b := if_neg (by omega)
  have e2 : srch mark nm m (b + 1) = searchG mark nm m ((nm.length : Int) + 1 - (b + 1)).toNat (b + 1) := if_neg (by omega)
  have : ((nm.length : Int) + 1 - b).toNat = ((nm.length : Int) + 1 - (b + 1)).toNat + 1 := by omega
  rw [e1, e2, this]; rfl
theorem searchG_bd (mark : Str) (nm : List Nat) (m : List Item) : ∀ (f : Nat) (b : Int), 0 ≤ b → b + f ≤ (nm.length : Int) + 1 → searchG mark nm m f b = -1 ∨ (b ≤ searchG mark nm m f b ∧ searchG mark nm m f b ≤ nm.length)
  | 0, _, _, _ => .inl rfl
  | f + 1, b, h0, h1 => by
    have e : searchG mark nm m (f + 1) b = if runG mark nm m b < 0 then searchG mark nm m f (b + 1) else runG mark nm m b := rfl
    rw [e]
    split
    · rcases searchG_bd mark nm m f (b + 1) (by omega) (by omega) with h | h
      · exact .inl h
      · exact .inr ⟨by omega, h.2⟩
    · rename_i hz
      rcases runG_bd mark nm m b h0 (by omega) with h | h
      · omega
      · exact .inr h
theorem srch_bd (mark : Str) (nm : List Nat) (m : List Item) (b : Int) : srch mark nm m b = -1 ∨ (0 ≤ srch mark nm m b ∧ srch mark nm m b ≤ nm.length) := by
  rcases Int.lt_or_le b 0 with h | h
  · exact .inl (srch_neg mark nm m h)
  · rcases Int.lt_or_le (nm.length : Int) b with h' | h'
    · exact .inl (srch_past mark nm m h')
    · unfold srch
      rw [if_neg (by omega)]
      rcases searchG_bd mark nm m ((nm.length : Int) + 1 - b).toNat b h (by omega) with q | q
      · exact .inl q
      · exact .inr ⟨by omega, q.2⟩
theorem midsG_take (mark : Str) (nm : List Nat) (mids : List (List Item)) (pl : Int) {i : Nat} {m : List Item} (h : mids[i]? = some m) : midsG mark nm (mids.take (i + 1)) pl = srch mark nm m (midsG mark nm (mids.take i) pl) := by
  unfold midsG; rw [List.take_add_one, h, List.foldl_append]; rfl
theorem midsG_bd (mark : Str) (nm : List Nat) (mids : List (List Item)) (pl : Int) (h : pl = -1 ∨ (0 ≤ pl ∧ pl ≤ nm.length)) : midsG mark nm mids pl = -1 ∨ (0 ≤ midsG mark nm mids pl ∧ midsG mark nm mids pl ≤ nm.length) := by
  induction mids generalizing pl with
  | nil => exact h
  | cons m r ih => exact ih _ (srch_bd mark nm m pl)
theorem strValues_get {l : List (Str × Tok)} {xs : List Str} (h : l.map (·.1) = xs) {i : Nat} {v : Value} (hv : (strValues l)[i]? = some v) : ∃ x t, xs[i]? = some x ∧ v = .str x t := by
  subst h
  unfold strValues at hv
  rw [List.getElem?_map] at hv
  cases hq : l[i]? with
  | none => rw [hq] at hv; cases hv
  | some q => rw [hq] at hv; exact ⟨q.1, q.2, by rw [List.getElem?_map, hq]; rfl, (Option.some.inj hv).symm⟩
theorem part_last (l : List Nat) : (Txt.slice (tx (l ++ [41])) (some (-1)) none != Str.ofString ")") = false := by
  have e0 : Str.ofString ")" = tx [41] := by decide +kernel
  have hl : (l ++ [41]).length = l.length + 1 := by simp
  rw [slice_neg_lo _ none (by decide) (by omega), slice_from _ (by omega), e0]
  have : ((-1 : Int) + ((l ++ [41]).length : Int)).toNat = l.length := by omega
  rw [this]; simp
theorem part_cut (l : List Nat) : Txt.slice (tx (l ++ [41])) none (some (-1)) = tx l := by
  have hl : (l ++ [41]).length = l.length + 1 := by simp
  rw [slice_neg_hi _ none (by decide) (by omega), slice_to _ (by omega)]
  have : ((-1 : Int) + ((l ++ [41]).length : Int)).toNat = l.length := by omega
  rw [this]; simp
theorem range_len (a b : Int) : Builtin.Range.rangeSize a b 1 = ((b - a).toNat : Int) := by
  unfold Builtin.Range.rangeSize
  simp only [show (1 : Int) > 0 by decide, if_true, Int.ediv_one]
  split <;> omega
end Mine
end
section -- D3
namespace Mine
/-- the places behind an item -/
def okP (nm : List Nat) (c : Nat) (a : Int) : Bool := decide (a < nm.length) && (decide (c = 63) || nm[a.toNat]? == some c)
def minP : List Int → Int
  | [] => 0
  | a :: r => r.foldl min a
def stepP (nm : List Nat) (c : Nat) (ps : List Int) : List Int :=
  if c = 42 then rangeKs (minP ps) ((nm.length : Int) + 1 - minP ps).toNat else (ps.filter (okP nm c)).map (· + 1)
def meansF (nm : List Nat) : List Nat → List Int → Bool
  | [], ps => ps.any (· == (nm.length : Int))
  | c :: r, ps => if stepP nm c ps = [] then false else meansF nm r (stepP nm c ps)
theorem foldl_min_le : ∀ (r : List Int) (a : Int), r.foldl min a ≤ a ∧ (∀ b ∈ r, r.foldl min a ≤ b) ∧ (r.foldl min a = a ∨ r.foldl min a ∈ r)
  | [], a => ⟨Int.le_refl _, by simp, .inl rfl⟩
  | b :: r, a => by
    obtain ⟨h1, h2, h3⟩ := foldl_min_le r (min a b)
    rw [List.foldl_cons]
    refine ⟨by omega, ?_, ?_⟩
    · intro d hd
      rcases List.mem_cons.mp hd with rfl | hd
      · omega
      · exact h2 d hd
    · rcases h3 with h | h
      · rw [h]
        rcases Int.le_total a b with q | q
        · rw [Int.min_eq_left q]; exact .inl rfl
        · rw [Int.min_eq_right q]; exact .inr (List.mem_cons_self ..)
      · exact .inr (List.mem_cons_of_mem _ h)
theorem minP_eq {ps : List Int} {M : Int} (h : M ∈ ps) (hm : ∀ a, a ∈ ps → M ≤ a) : minP ps = M := by
  cases ps with
  | nil => cases h
  | cons a r =>
    obtain ⟨h1, h2, h3⟩ := foldl_min_le r a
    show r.foldl min a = M
    have q1 : M ≤ r.foldl min a := by
      rcases h3 with q | q
      · rw [q]; exact hm a (List.mem_cons_self ..)
      · exact hm _ (List.mem_cons_of_mem _ q)
    have q2 : r.foldl min a ≤ M := by
      rcases List.mem_cons.mp h with rfl | h
      · exact h1
      · exact h2 _ h
    omega
theorem mem_rangeKs {a b : Int} {n : Nat} (h : b ∈ rangeKs a n) : a ≤ b ∧ b < a + n := by
  unfold rangeKs at h
  obtain ⟨i, hi, rfl⟩ := List.mem_map.mp h
  have := List.mem_range.mp hi
  omega
theorem meansF_cons (nm : List Nat) (c : Nat) (r : List Nat) (ps : List Int) : meansF nm (c :: r) ps = if stepP nm c ps = [] then false else meansF nm r (stepP nm c ps) := rfl
theorem intsApp : ∀ {vs us : List Value} {ns ms : List Int}, IntsAre vs ns → IntsAre us ms → IntsAre (vs ++ us) (ns ++ ms)
  | _, _, _, _, .nil, h => h
  | _, _, _, _, .cons n t r, h => .cons n t (intsApp r h)
theorem accT {nm : List Nat} {c : Nat} {ps : List Int} {j : Nat} {a : Int} {ys : List Value} {t : Tok} (h : ps[j]? = some a) (ok : okP nm c a = true) (hA : IntsAre ys (((ps.take j).filter (okP nm c)).map (· + 1))) :
    IntsAre (ys ++ [.int (a + 1) t]) (((ps.take (j + 1)).filter (okP nm c)).map (· + 1)) := by
  rw [List.take_add_one, h]
  simp only [Option.toList_some, List.filter_append, List.filter_cons, List.filter_nil, ok, if_true, List.map_append, List.map_cons, List.map_nil]
  exact intsApp hA (.cons _ _ .nil)
theorem accF {nm : List Nat} {c : Nat} {ps : List Int} {j : Nat} {a : Int} {ys : List Value} (h : ps[j]? = some a) (ok : okP nm c a = false) (hA : IntsAre ys (((ps.take j).filter (okP nm c)).map (· + 1))) :
    IntsAre ys (((ps.take (j + 1)).filter (okP nm c)).map (· + 1)) := by
  rw [List.take_add_one, h]
  simp only [Option.toList_some, List.filter_append, List.filter_cons, List.filter_nil, ok, Bool.false_eq_true, if_false, List.append_nil]
  exact hA
end Mine
end
section -- D4
namespace Mine
def flatS (segs : List (List (List Nat))) : List (Option (List Nat)) := segs.flatMap fun m => none :: m.map some
def outS : List (List (List Nat)) → List Nat
  | [] => []
  | [m] => [46, 42] ++ m.flatten
  | m :: r => [40, 63, 62, 46, 42, 63] ++ m.flatten ++ [41] ++ outS r
def GoodS : List (List (List Nat)) → Prop
  | [] => True
  | [_] => True
  | m :: r => m ≠ [] ∧ GoodS r
theorem flatS_cons (m : List (List Nat)) (r) : flatS (m :: r) = none :: (m.map some ++ flatS r) := by simp [flatS]
theorem outS_one (m : List (List Nat)) : outS [m] = [46, 42] ++ m.flatten := rfl
theorem outS_more (m x : List (List Nat)) (r) : outS (m :: x :: r) = [40, 63, 62, 46, 42, 63] ++ m.flatten ++ [41] ++ outS (x :: r) := rfl
theorem goodS_tail {m : List (List Nat)} {r} (h : GoodS (m :: r)) : GoodS r := by
  cases r with
  | nil => trivial
  | cons a b => exact h.2
theorem join_fold : ∀ (ts : List (List Nat)) (a : List Nat), (⟨((ts.map tx).foldl (fun acc p => acc ++ (Str.ofString "").cps ++ p.cps) a.toArray)⟩ : Str) = tx (a ++ ts.flatten)
  | [], a => by simp
  | x :: r, a => by
    have e : (Str.ofString "").cps = #[] := by decide +kernel
    have e2 : a.toArray ++ (Str.ofString "").cps ++ (tx x).cps = (a ++ x).toArray := by rw [e]; simp
    rw [List.map_cons, List.foldl_cons, e2, join_fold r (a ++ x), List.flatten_cons, List.append_assoc]
theorem join_tx : ∀ ts : List (List Nat), Txt.join (Str.ofString "") (ts.map tx) = tx ts.flatten
  | [] => rfl
  | x :: r => by
    have h := join_fold r x
    exact h
theorem sum_tx : ∀ ts : List (List Nat), ((ts.map tx).map (·.length)).sum = ts.flatten.length
  | [] => rfl
  | x :: r => by
    have ih := sum_tx r
    simp only [List.map_cons, List.sum_cons, List.flatten_cons, List.length_append, tx_len]
    omega
theorem strs_snoc' {us : List Value} {ws : List Str} {x : Str} {t : Tok} (h : StrsAre us ws) : StrsAre (us ++ [.str x t]) (ws ++ [x]) := h.append' (.cons _ _ .nil)
/-- the parts from i on -/
theorem drop_head {α : Type} {l : List α} {i : Nat} {x : α} {r : List α} (h : l.drop i = x :: r) : l[i]? = some x ∧ l.drop (i + 1) = r ∧ i < l.length := by
  have hlt : i < l.length := by
    rcases Nat.lt_or_ge i l.length with q | q
    · exact q
    · rw [List.drop_eq_nil_of_le q] at h; cases h
  rw [List.drop_eq_getElem_cons hlt] at h
  injection h with h1 h2
  exact ⟨by rw [List.getElem?_eq_getElem hlt, h1], h2, hlt⟩
theorem drop_nil {α : Type} {l : List α} {i : Nat} (h : l.drop i = []) : l.length ≤ i := List.drop_eq_nil_iff.mp h
end Mine
end
section -- D5
namespace Mine
def dotS : Str := tx [46]
/-- the items of a pattern without stars, as places move -/
def itemOk (nm : List Nat) (x : Item) (i : Nat) : Bool := match x with | none => decide (i < nm.length) | some c => nm[i]? == some c
def fits (nm : List Nat) : List Item → Nat → Bool
  | [], _ => true
  | x :: r, i => itemOk nm x i && fits nm r (i + 1)
theorem oneF_dot (nm : List Nat) (i : Nat) : oneF dotS (tx nm) (i : Int) = if i < nm.length then 1 else 0 := by
  have e : (dotS == Str.ofString ".") = true := by decide +kernel
  unfold oneF
  rw [if_pos e, slice_ab nm (by omega) (by omega), tx_len]
  have e1 : (((i : Int) + 1).toNat - (i : Int).toNat) = 1 := by omega
  rw [List.length_take, List.length_drop]
  split <;> omega
theorem stepF_dot (nm : List Nat) (x : Item) (i : Nat) : stepF dotS nm (i : Int) x = if itemOk nm x i then 1 else 0 := by
  cases x with
  | none => show oneF dotS (tx nm) (i : Int) = _; rw [oneF_dot]; simp [itemOk]
  | some c => show (if nm[(i : Int).toNat]? = some c then (1 : Int) else 0) = _; simp [itemOk]
theorem runG_dot (nm : List Nat) : ∀ (xs : List Item) (i : Nat), runG dotS nm xs (i : Int) = if fits nm xs i then ((i + xs.length : Nat) : Int) else -1
  | [], i => by simp [runG, fits]
  | x :: r, i => by
    show (if stepF dotS nm i x = 0 then -1 else runG dotS nm r (i + stepF dotS nm i x)) = _
    rw [stepF_dot]
    cases h : itemOk nm x i
    · simp [fits, h]
    · have ih := runG_dot nm r (i + 1)
      simp only [if_true, fits, h, Bool.true_and, show ¬ ((1 : Int) = 0) by decide, if_false]
      rw [show ((i : Int) + 1) = ((i + 1 : Nat) : Int) by omega, ih]
      split
      · simp only [List.length_cons]; congr 1; omega
      · rfl
theorem fits_len (nm : List Nat) : ∀ (xs : List Item) (i : Nat), fits nm xs i = true → xs ≠ [] → i + xs.length ≤ nm.length
  | [], _, _, h => absurd rfl h
  | [x], i, h, _ => by
    simp only [fits, Bool.and_true] at h
    have : i < nm.length := by
      cases x with
      | none => simpa [itemOk] using h
      | some c => simp only [itemOk, beq_iff_eq] at h; exact (List.getElem?_eq_some_iff.mp h).1
    simp; omega
  | x :: y :: r, i, h, _ => by
    simp only [fits, Bool.and_eq_true] at h
    have := fits_len nm (y :: r) (i + 1) (by simp [fits, h.2.1, h.2.2]) (by simp)
    simp only [List.length_cons] at this ⊢; omega
end Mine
end
section -- D6
namespace Mine
def itemOf (c : Nat) : Item := if c = 63 then none else some c
def codeOf : Item → Nat
  | none => 63
  | some c => c
/-- a pattern as its first run and the runs behind its stars -/
def segsOf : List Nat → List Item × List (List Item)
  | [] => ([], [])
  | c :: r => if c = 42 then (if (segsOf r).1 = [] ∧ (segsOf r).2 ≠ [] then ([], (segsOf r).2) else ([], (segsOf r).1 :: (segsOf r).2)) else (itemOf c :: (segsOf r).1, (segsOf r).2)
def flatPat (a : List Item) (b : List (List Item)) : List Nat := a.map codeOf ++ b.flatMap fun m => 42 :: m.map codeOf
theorem code_itemOf (c : Nat) : codeOf (itemOf c) = c := by unfold itemOf; split <;> simp_all [codeOf]
theorem range_min (a : Int) : ∀ k : Nat, 0 < k → minP (rangeKs a k) = a := by
  intro k hk
  refine minP_eq ?_ ?_
  · unfold rangeKs; exact List.mem_map.mpr ⟨0, List.mem_range.mpr hk, by simp⟩
  · intro b hb; exact (mem_rangeKs hb).1
theorem step_star (nm : List Nat) (ps : List Int) (h : stepP nm 42 ps ≠ []) : stepP nm 42 (stepP nm 42 ps) = stepP nm 42 ps := by
  have e : ∀ qs, stepP nm 42 qs = rangeKs (minP qs) ((nm.length : Int) + 1 - minP qs).toNat := fun qs => by unfold stepP; rw [if_pos rfl]
  have hk : 0 < ((nm.length : Int) + 1 - minP ps).toNat := by
    rcases Nat.eq_zero_or_pos ((nm.length : Int) + 1 - minP ps).toNat with q | q
    · rw [e, q] at h; exact absurd rfl h
    · exact q
  rw [e (stepP nm 42 ps), e ps, range_min _ _ hk]
theorem means_flat (nm : List Nat) : ∀ (pat : List Nat) (ps : List Int), meansF nm pat ps = meansF nm (flatPat (segsOf pat).1 (segsOf pat).2) ps
  | [], ps => rfl
  | c :: r, ps => by
    by_cases hc : c = 42
    · subst hc
      by_cases hs : (segsOf r).1 = [] ∧ (segsOf r).2 ≠ []
      · have e : segsOf (42 :: r) = ([], (segsOf r).2) := by simp [segsOf, hs]
        rw [e, meansF_cons]
        obtain ⟨m, b, hb⟩ := List.exists_cons_of_ne_nil hs.2
        have ih := means_flat nm r (stepP nm 42 ps)
        rw [hs.1, hb] at ih
        rw [hb]
        have ef : flatPat [] (m :: b) = 42 :: (m.map codeOf ++ b.flatMap fun m => 42 :: m.map codeOf) := by simp [flatPat]
        rw [ef] at ih ⊢
        rw [meansF_cons] at ih ⊢
        by_cases hq : stepP nm 42 ps = []
        · rw [if_pos hq, if_pos hq]
        · rw [if_neg hq, if_neg hq, ih, step_star nm ps hq, if_neg hq]
      · have e : segsOf (42 :: r) = ([], (segsOf r).1 :: (segsOf r).2) := by simp only [segsOf, if_true, if_neg hs]
        have ef : flatPat [] ((segsOf r).1 :: (segsOf r).2) = 42 :: flatPat (segsOf r).1 (segsOf r).2 := by simp [flatPat]
        rw [e, ef, meansF_cons, meansF_cons, ← means_flat nm r]
    · have e : segsOf (c :: r) = (itemOf c :: (segsOf r).1, (segsOf r).2) := by simp only [segsOf, if_neg hc]
      have ef : flatPat (itemOf c :: (segsOf r).1) (segsOf r).2 = c :: flatPat (segsOf r).1 (segsOf r).2 := by simp [flatPat, code_itemOf]
      rw [e, ef, meansF_cons, meansF_cons, ← means_flat nm r]
/-- all runs but the last hold something -/
theorem segs_good (mk : List Nat) : ∀ pat : List Nat, ((segsOf pat).1 = [] → GoodS ((segsOf pat).2.map fun m => m.map (itemE mk))) ∧ GoodS ((segsOf pat).2.map fun m => m.map (itemE mk))
  | [] => ⟨fun _ => trivial, trivial⟩
  | c :: r => by
    have ih := (segs_good mk r).2
    suffices h : GoodS ((segsOf (c :: r)).2.map fun m => m.map (itemE mk)) from ⟨fun _ => h, h⟩
    by_cases hc : c = 42
    · subst hc
      by_cases hs : (segsOf r).1 = [] ∧ (segsOf r).2 ≠ []
      · have e : segsOf (42 :: r) = ([], (segsOf r).2) := by simp [segsOf, hs]
        rw [e]; exact ih
      · have e : segsOf (42 :: r) = ([], (segsOf r).1 :: (segsOf r).2) := by simp only [segsOf, if_true, if_neg hs]
        rw [e]
        show GoodS (((segsOf r).1.map (itemE mk)) :: (segsOf r).2.map fun m => m.map (itemE mk))
        cases h2 : (segsOf r).2 with
        | nil => trivial
        | cons m b =>
          rw [h2] at ih hs
          refine ⟨?_, ih⟩
          intro h
          exact hs ⟨List.map_eq_nil_iff.mp h, by simp⟩
    · have e : segsOf (c :: r) = (itemOf c :: (segsOf r).1, (segsOf r).2) := by simp only [segsOf, if_neg hc]
      rw [e]; exact ih
end Mine
end
section -- D8
namespace Mine
open PySem.Builtin PySem.Builtin.Str PySem.StrLaws
/-- the text that is made of a pattern -/
def textOf (mk pat : List Nat) : List Nat := [40, 63, 115, 58] ++ (((segsOf pat).1.map (itemE mk)).flatten ++ outS ((segsOf pat).2.map fun m => m.map (itemE mk))) ++ [41, 92, 90]
def sepL : List Nat := [40, 63, 62, 46, 42, 63]
def joinS : List Nat → List (List Nat) → List Nat
  | p, [] => p
  | p, q :: r => p ++ (sepL ++ joinS q r)
theorem tx_toList (l : List Nat) : (tx l).cps.toList = l := rfl
theorem at_iff (L y : List Nat) (i : Nat) : At (tx L) (tx y) L.length i ↔ i + y.length ≤ L.length ∧ (L.drop i).take y.length = y := by
  unfold At
  rw [subAt_eq, tx_len, tx_toList, tx_toList]
  simp
theorem sep_42 {L : List Nat} {k : Nat} (h : At (tx L) (tx sepL) L.length k) : L[k + 4]? = some 42 := by
  obtain ⟨_, h2⟩ := (at_iff L sepL k).mp h
  have h3 : ((L.drop k).take 6)[4]? = some 42 := by rw [show (6 : Nat) = sepL.length from rfl, h2]; rfl
  rw [List.getElem?_take_of_lt (by decide), List.getElem?_drop] at h3
  exact h3
theorem no42 {p : List Nat} (h : 42 ∉ p) (i : Nat) : p[i]? ≠ some 42 := fun e => h (List.mem_of_getElem? e)
theorem parts_eq (L : List Nat) : ∀ (r : List (List Nat)) (p : List Nat) (cuts : List Nat) (a f : Nat), 42 ∉ p → (∀ q ∈ r, 42 ∉ q) → a ≤ L.length → L.drop a = joinS p r →
    ChainG (tx L) (tx sepL) (tx L).length a cuts f → (∀ k, f ≤ k → ¬ At (tx L) (tx sepL) (tx L).length k) → partsFrom (tx L) (tx sepL).length a cuts = (p :: r).map tx
  | [], p, cuts, a, f, hp, _, ha, hd, hc, hn => by
    rw [tx_len] at hc hn
    have hd' : L.drop a = p := hd
    have hno : ∀ k, a ≤ k → ¬ At (tx L) (tx sepL) L.length k := by
      intro k hk hA
      have h := sep_42 hA
      have e : L[k + 4]? = p[k + 4 - a]? := by rw [← hd', List.getElem?_drop]; congr 1; omega
      exact no42 hp _ (e ▸ h)
    cases cuts with
    | cons c r => exact absurd hc.2.1 (hno c hc.1)
    | nil =>
      show [strSub (tx L) a (tx L).length] = [tx p]
      congr 1
      refine Str.ext' (Array.toList_inj.mp ?_)
      rw [strSub_toList, tx_len, tx_toList, tx_toList, hd', List.take_of_length_le]
      rw [← hd', List.length_drop]; omega
  | q :: r, p, cuts, a, f, hp, hr, ha, hd, hc, hn => by
    have hl6 : (tx sepL).length = 6 := by rw [tx_len]; rfl
    rw [tx_len] at hc hn
    have hd' : L.drop a = p ++ (sepL ++ joinS q r) := hd
    have hlen : L.length - a = p.length + (6 + (joinS q r).length) := by
      have := congrArg List.length hd'
      rw [List.length_drop, List.length_append, List.length_append] at this; exact this
    have hno : ∀ k, a ≤ k → k < a + p.length → ¬ At (tx L) (tx sepL) L.length k := by
      intro k hk hk2 hA
      have h := sep_42 hA
      have e : L[k + 4]? = (p ++ (sepL ++ joinS q r))[k + 4 - a]? := by rw [← hd', List.getElem?_drop]; congr 1; omega
      rw [e] at h
      rcases Nat.lt_or_ge (k + 4 - a) p.length with h1 | h1
      · rw [List.getElem?_append_left h1] at h; exact no42 hp _ h
      · rw [List.getElem?_append_right h1, List.getElem?_append_left (by show _ < 6; omega)] at h
        have h4 : k + 4 - a - p.length = 0 ∨ k + 4 - a - p.length = 1 ∨ k + 4 - a - p.length = 2 ∨ k + 4 - a - p.length = 3 := by omega
        rcases h4 with h4 | h4 | h4 | h4 <;> rw [h4] at h <;> exact absurd h (by decide)
    have hyes : At (tx L) (tx sepL) L.length (a + p.length) := by
      refine (at_iff L sepL _).mpr ⟨by show a + p.length + 6 ≤ _; omega, ?_⟩
      rw [← List.drop_drop, hd']
      simp
    have hdn : L.drop (a + p.length + 6) = joinS q r := by
      rw [← List.drop_drop, ← List.drop_drop, hd', List.drop_left, show (6 : Nat) = sepL.length from rfl, List.drop_left]
    cases cuts with
    | nil =>
      have e : f = a := hc
      exact absurd hyes (hn _ (by omega))
    | cons c cs =>
      obtain ⟨h1, h2, h3, h4⟩ := hc
      have hcc : c = a + p.length := by
        rcases Nat.lt_trichotomy c (a + p.length) with h | h | h
        · exact absurd h2 (hno c h1 h)
        · exact h
        · exact absurd hyes (h3 _ (by omega) h)
      subst hcc
      rw [hl6] at h4
      have ih := parts_eq L r q cs (a + p.length + 6) f (hr q (List.mem_cons_self ..)) (fun x hx => hr x (List.mem_cons_of_mem _ hx)) (by omega) hdn (by rw [tx_len]; exact h4) (by rw [tx_len]; exact hn)
      rw [hl6] at ih ⊢
      show strSub (tx L) a (a + p.length) :: partsFrom (tx L) 6 (a + p.length + 6) cs = tx p :: (q :: r).map tx
      rw [ih]
      congr 1
      refine Str.ext' (Array.toList_inj.mp ?_)
      rw [strSub_toList, tx_toList, tx_toList, hd', show a + p.length - a = p.length by omega, List.take_left]
theorem split_sep (p : List Nat) (r : List (List Nat)) (hp : 42 ∉ p) (hr : ∀ q ∈ r, 42 ∉ q) : Txt.split (tx (joinS p r)) (tx sepL) = (p :: r).map tx := by
  obtain ⟨f, hG, hn⟩ := occ_tight (tx (joinS p r)) (tx sepL) (by rw [tx_len]; decide)
  have key := parts_eq (joinS p r) r p _ 0 f hp hr (Nat.zero_le _) rfl hG hn
  unfold Txt.split
  have hk : Builtin.Str.strKind (tx sepL) = 1 := by decide +kernel
  have hk2 : ¬ Builtin.Str.strKind (tx (joinS p r)) < Builtin.Str.strKind (tx sepL) := by
    rw [hk]; unfold Builtin.Str.strKind; split
    · omega
    · split <;> omega
  have hone : r = [] → [tx (joinS p r)] = (p :: r).map tx := by rintro rfl; rfl
  split
  · rename_i hc
    simp only [Bool.or_eq_true, decide_eq_true_eq, hk2, or_false] at hc
    cases r with
    | nil => rfl
    | cons q r =>
      exfalso
      rw [tx_len, tx_len] at hc
      have e : (joinS p (q :: r)).length = p.length + (sepL.length + (joinS q r).length) := by
        show (p ++ (sepL ++ joinS q r)).length = _
        rw [List.length_append, List.length_append]
      omega
  · split
    · rename_i he
      have he' := List.isEmpty_iff.mp he
      rw [he'] at key
      cases r with
      | nil => rfl
      | cons q r => exact absurd (congrArg List.length key) (by simp [partsFrom])
    · rw [partsBetween_eq]; exact key
theorem rfind_star (A B : List Nat) (hB : 42 ∉ B) : Txt.rfind (tx (A ++ [46, 42] ++ B)) (Str.ofString ".*") = (A.length : Int) := by
  have e : Str.ofString ".*" = tx [46, 42] := by decide +kernel
  have hA : At (tx (A ++ [46, 42] ++ B)) (tx [46, 42]) (tx (A ++ [46, 42] ++ B)).length A.length := by
    rw [tx_len]
    refine (at_iff _ _ _).mpr ⟨by simp, ?_⟩
    simp
  have hno : ∀ k, A.length < k → ¬ At (tx (A ++ [46, 42] ++ B)) (tx [46, 42]) (tx (A ++ [46, 42] ++ B)).length k := by
    intro k hk h
    rw [tx_len] at h
    obtain ⟨_, h2⟩ := (at_iff _ _ _).mp h
    have h3 : (((A ++ [46, 42] ++ B).drop k).take 2)[1]? = some 42 := by rw [show (2 : Nat) = [46, 42].length from rfl, h2]; rfl
    rw [List.getElem?_take_of_lt (by decide), List.getElem?_drop, List.getElem?_append_right (by simp; omega)] at h3
    exact no42 hB _ h3
  unfold Txt.rfind
  rw [e]
  rcases last_spec (tx (A ++ [46, 42] ++ B)) (tx [46, 42]) with ⟨_, h⟩ | ⟨i, h1, h2, h3⟩
  · exact absurd hA (h _)
  · rw [h1]
    have : i = A.length := by
      rcases Nat.lt_trichotomy i A.length with q | q | q
      · exact absurd hA (h3 _ q)
      · exact q
      · exact absurd h2 (hno i q)
    rw [this]
theorem encE_flat (mk : List Nat) (xs : List Item) : (xs.map (itemE mk)).flatten = encE mk xs := by
  unfold encE; rw [List.flatMap_def]
theorem outS_snoc (mk : List Nat) : ∀ (mids : List (List Item)) (last : List Item), outS ((mids ++ [last]).map fun m => m.map (itemE mk)) = (mids.flatMap fun m => sepL ++ (encE mk m ++ [41])) ++ ([46, 42] ++ encE mk last)
  | [], last => by simp only [List.nil_append, List.map_cons, List.map_nil, outS_one, List.flatMap_nil, encE_flat]
  | m :: r, last => by
    have ih := outS_snoc mk r last
    cases hr : (r ++ [last]).map (fun m => m.map (itemE mk)) with
    | nil => simp at hr
    | cons x xs =>
      rw [hr] at ih
      rw [List.cons_append, List.map_cons, hr, outS_more, ih, List.flatMap_cons, encE_flat]
      simp [sepL]
theorem joinS_mids (mk : List Nat) : ∀ (mids : List (List Item)) (p : List Nat), joinS p (mids.map fun m => encE mk m ++ [41]) = p ++ mids.flatMap fun m => sepL ++ (encE mk m ++ [41])
  | [], p => by simp [joinS]
  | m :: r, p => by
    rw [List.map_cons]
    show p ++ (sepL ++ joinS _ _) = _
    rw [joinS_mids mk r, List.flatMap_cons]
    simp
/-- no star among a run's items -/
def NoStar (xs : List Item) : Prop := some 42 ∉ xs
theorem enc_no42 {mk : List Nat} (hmk : 42 ∉ mk) {xs : List Item} (h : NoStar xs) : 42 ∉ encE mk xs := by
  intro hm
  unfold encE at hm
  obtain ⟨x, hx, hm⟩ := List.mem_flatMap.mp hm
  cases x with
  | none => exact hmk hm
  | some c =>
    have hc : c ≠ 42 := fun e => h (e ▸ hx)
    simp only [itemE, litE] at hm
    split at hm
    · simp at hm; omega
    · simp at hm; omega
section
variable (mk pat : List Nat) (seg0 last : List Item) (mids : List (List Item))
def insideL : List Nat := (encE mk seg0 ++ mids.flatMap fun m => sepL ++ (encE mk m ++ [41])) ++ [46, 42] ++ encE mk last
theorem text_eq (h0 : (segsOf pat).1 = seg0) (h1 : (segsOf pat).2 = mids ++ [last]) : textOf mk pat = [40, 63, 115, 58] ++ insideL mk seg0 last mids ++ [41, 92, 90] := by
  unfold textOf insideL
  rw [h0, h1, outS_snoc, encE_flat]
  simp
theorem textA (I : List Nat) : (Txt.slice (tx ([40, 63, 115, 58] ++ I ++ [41, 92, 90])) none (some 4) != Str.ofString "(?s:") = false := by
  have e : Str.ofString "(?s:" = tx [40, 63, 115, 58] := by decide +kernel
  rw [slice_to _ (by decide), e]
  show (tx (([40, 63, 115, 58] ++ I ++ [41, 92, 90]).take 4) != _) = false
  simp
theorem textB (I : List Nat) : (Txt.slice (tx ([40, 63, 115, 58] ++ I ++ [41, 92, 90])) (some (-3)) none != Str.ofString ")\\Z") = false := by
  have e : Str.ofString ")\\Z" = tx [41, 92, 90] := by decide +kernel
  have hl : ([40, 63, 115, 58] ++ I ++ [41, 92, 90]).length = ([40, 63, 115, 58] ++ I).length + 3 := by simp
  rw [slice_neg_lo _ _ (by decide) (by omega), slice_from _ (by omega), e]
  have e2 : ((-3 : Int) + (([40, 63, 115, 58] ++ I ++ [41, 92, 90]).length : Int)).toNat = ([40, 63, 115, 58] ++ I).length := by omega
  rw [e2, List.drop_left]
  simp
theorem textI (I : List Nat) : Txt.slice (tx ([40, 63, 115, 58] ++ I ++ [41, 92, 90])) (some 4) (some (-3)) = tx I := by
  have hl : ([40, 63, 115, 58] ++ I ++ [41, 92, 90]).length = I.length + 7 := by simp
  rw [slice_neg_hi _ _ (by decide) (by omega), slice_ab _ (by decide) (by omega)]
  have e2 : ((-3 : Int) + (([40, 63, 115, 58] ++ I ++ [41, 92, 90]).length : Int)).toNat - (4 : Int).toNat = I.length := by omega
  rw [e2]
  show tx ((([40, 63, 115, 58] ++ I ++ [41, 92, 90]).drop 4).take I.length) = _
  congr 2
  simp
variable (hmk : 42 ∉ mk) (hm : ∀ m ∈ mids, NoStar m) (hs : NoStar seg0) (hl : NoStar last)
include hmk hl in
theorem inR : Txt.rfind (tx (insideL mk seg0 last mids)) (Str.ofString ".*") = ((encE mk seg0 ++ mids.flatMap fun m => sepL ++ (encE mk m ++ [41])).length : Int) := rfind_star _ _ (enc_no42 hmk hl)
include hmk hl in
theorem inL : Txt.slice (tx (insideL mk seg0 last mids)) (some (Txt.rfind (tx (insideL mk seg0 last mids)) (Str.ofString ".*") + 2)) none = tx (encE mk last) := by
  rw [inR mk seg0 last mids hmk hl, slice_from _ (by omega)]
  congr 2
  have e : (((encE mk seg0 ++ mids.flatMap fun m => sepL ++ (encE mk m ++ [41])).length : Int) + 2).toNat = ((encE mk seg0 ++ mids.flatMap fun m => sepL ++ (encE mk m ++ [41])) ++ [46, 42]).length := by rw [List.length_append (bs := [46, 42])]; simp only [List.length_cons, List.length_nil]; omega
  rw [e]
  unfold insideL
  rw [List.drop_left]
include hmk hm hs hl in
theorem inS : Txt.split (Txt.slice (tx (insideL mk seg0 last mids)) none (some (Txt.rfind (tx (insideL mk seg0 last mids)) (Str.ofString ".*")))) (Str.ofString "(?>.*?") = tx (encE mk seg0) :: mids.map fun m => tx (encE mk m ++ [41]) := by
  have e : Str.ofString "(?>.*?" = tx sepL := by decide +kernel
  rw [inR mk seg0 last mids hmk hl, slice_to _ (by omega), e]
  have e2 : (insideL mk seg0 last mids).take ((encE mk seg0 ++ mids.flatMap fun m => sepL ++ (encE mk m ++ [41])).length : Int).toNat = joinS (encE mk seg0) (mids.map fun m => encE mk m ++ [41]) := by
    rw [joinS_mids]
    unfold insideL
    rw [List.append_assoc _ [46, 42], Int.toNat_natCast, List.take_left]
  rw [e2, split_sep _ _ (enc_no42 hmk hs)]
  · rw [List.map_cons, List.map_map]; rfl
  · intro q hq
    obtain ⟨m, h1, rfl⟩ := List.mem_map.mp hq
    have := enc_no42 hmk (hm m h1)
    simp only [List.mem_append, List.mem_singleton]
    rintro (h | h)
    · exact this h
    · omega
end
end Mine
end
section -- D9
namespace Mine
/-- a pattern means the name from a place on -/
def Mt (nm : List Nat) : List Nat → Nat → Prop
  | [], i => i = nm.length
  | c :: r, i => if c = 42 then ∃ j, i ≤ j ∧ j ≤ nm.length ∧ Mt nm r j else (i < nm.length ∧ (c = 63 ∨ nm[i]? = some c)) ∧ Mt nm r (i + 1)
theorem mt_star (nm r : List Nat) (i : Nat) : Mt nm (42 :: r) i ↔ ∃ j, i ≤ j ∧ j ≤ nm.length ∧ Mt nm r j := by simp [Mt]
theorem mt_sign (nm r : List Nat) {c : Nat} (i : Nat) (h : c ≠ 42) : Mt nm (c :: r) i ↔ (i < nm.length ∧ (c = 63 ∨ nm[i]? = some c)) ∧ Mt nm r (i + 1) := by simp [Mt, h]
theorem mt_mono {nm r : List Nat} {i k : Nat} (h : Mt nm (42 :: r) i) (hk : k ≤ i) : Mt nm (42 :: r) k := by
  obtain ⟨j, h1, h2, h3⟩ := (mt_star nm r i).mp h
  exact (mt_star nm r k).mpr ⟨j, by omega, h2, h3⟩
theorem minP_mem {ps : List Int} (h : ps ≠ []) : minP ps ∈ ps ∧ ∀ a ∈ ps, minP ps ≤ a := by
  cases ps with
  | nil => exact absurd rfl h
  | cons a r =>
    obtain ⟨h1, h2, h3⟩ := foldl_min_le r a
    refine ⟨?_, ?_⟩
    · show r.foldl min a ∈ _
      rcases h3 with q | q
      · rw [q]; exact List.mem_cons_self ..
      · exact List.mem_cons_of_mem _ q
    · intro b hb
      rcases List.mem_cons.mp hb with rfl | hb
      · exact h1
      · exact h2 b hb
theorem mem_range_iff {a b : Int} {n : Nat} : b ∈ rangeKs a n ↔ a ≤ b ∧ b < a + n := by
  refine ⟨mem_rangeKs, fun h => ?_⟩
  unfold rangeKs
  exact List.mem_map.mpr ⟨(b - a).toNat, List.mem_range.mpr (by omega), by omega⟩
theorem okP_iff (nm : List Nat) (c i : Nat) : okP nm c (i : Int) = true ↔ i < nm.length ∧ (c = 63 ∨ nm[i]? = some c) := by
  unfold okP
  simp
theorem means_iff (nm : List Nat) : ∀ (pat : List Nat) (ps : List Int), ps ≠ [] → (∀ a ∈ ps, 0 ≤ a ∧ a ≤ nm.length) → (meansF nm pat ps = true ↔ ∃ i : Nat, (i : Int) ∈ ps ∧ Mt nm pat i)
  | [], ps, hne, hb => by
    show (ps.any (· == (nm.length : Int))) = true ↔ ∃ i : Nat, (i : Int) ∈ ps ∧ i = nm.length
    rw [List.any_eq_true]
    constructor
    · rintro ⟨a, ha, he⟩
      have : a = (nm.length : Int) := by simpa using he
      exact ⟨nm.length, this ▸ ha, rfl⟩
    · rintro ⟨i, hi, rfl⟩; exact ⟨_, hi, by simp⟩
  | c :: r, ps, hne, hb => by
    rw [meansF_cons]
    by_cases hc : c = 42
    · subst hc
      obtain ⟨hm1, hm2⟩ := minP_mem hne
      have hmb := hb _ hm1
      have e : stepP nm 42 ps = rangeKs (minP ps) ((nm.length : Int) + 1 - minP ps).toNat := by unfold stepP; rw [if_pos rfl]
      have hin : ∀ b : Int, b ∈ stepP nm 42 ps ↔ minP ps ≤ b ∧ b ≤ nm.length := by intro b; rw [e, mem_range_iff]; omega
      have hn : stepP nm 42 ps ≠ [] := fun h => by
        have := (hin (minP ps)).mpr ⟨Int.le_refl _, hmb.2⟩
        rw [h] at this; cases this
      rw [if_neg hn, means_iff nm r _ hn (fun a ha => by have := (hin a).mp ha; omega)]
      constructor
      · rintro ⟨j, hj, hM⟩
        have := (hin _).mp hj
        exact ⟨(minP ps).toNat, by rw [show (((minP ps).toNat : Nat) : Int) = minP ps by omega]; exact hm1, (mt_star nm r _).mpr ⟨j, by omega, by omega, hM⟩⟩
      · rintro ⟨i, hi, hM⟩
        obtain ⟨j, h1, h2, h3⟩ := (mt_star nm r i).mp hM
        exact ⟨j, (hin _).mpr ⟨by have := hm2 _ hi; omega, by omega⟩, h3⟩
    · have e : stepP nm c ps = (ps.filter (okP nm c)).map (· + 1) := by unfold stepP; rw [if_neg hc]
      have hin : ∀ b : Int, b ∈ stepP nm c ps ↔ ∃ a ∈ ps, okP nm c a = true ∧ a + 1 = b := by
        intro b; rw [e, List.mem_map]
        constructor
        · rintro ⟨a, ha, rfl⟩; obtain ⟨h1, h2⟩ := List.mem_filter.mp ha; exact ⟨a, h1, h2, rfl⟩
        · rintro ⟨a, h1, h2, rfl⟩; exact ⟨a, List.mem_filter.mpr ⟨h1, h2⟩, rfl⟩
      by_cases hn : stepP nm c ps = []
      · rw [if_pos hn]
        constructor
        · intro h; cases h
        · rintro ⟨i, hi, hM⟩
          have h1 := ((mt_sign nm r i hc).mp hM).1
          have := (hin (i + 1)).mpr ⟨i, hi, (okP_iff nm c i).mpr h1, rfl⟩
          rw [hn] at this; cases this
      · rw [if_neg hn, means_iff nm r _ hn]
        · constructor
          · rintro ⟨j, hj, hM⟩
            obtain ⟨a, ha, hok, hj⟩ := (hin _).mp hj
            obtain ⟨i, rfl⟩ : ∃ i : Nat, (i : Int) = a := ⟨a.toNat, by have := hb a ha; omega⟩
            have : j = i + 1 := by omega
            subst this
            exact ⟨i, ha, (mt_sign nm r i hc).mpr ⟨(okP_iff nm c i).mp hok, hM⟩⟩
          · rintro ⟨i, hi, hM⟩
            have h1 := (mt_sign nm r i hc).mp hM
            exact ⟨i + 1, (hin _).mpr ⟨i, hi, (okP_iff nm c i).mpr h1.1, rfl⟩, h1.2⟩
        · intro b hb'
          obtain ⟨a, ha, hok, rfl⟩ := (hin _).mp hb'
          have := hb a ha
          obtain ⟨i, rfl⟩ : ∃ i : Nat, (i : Int) = a := ⟨a.toNat, by omega⟩
          have := (okP_iff nm c i).mp hok
          omega
/-- a run's signs are no stars and no marks -/
def RunOk (xs : List Item) : Prop := ∀ c, some c ∈ xs → c ≠ 42 ∧ c ≠ 63
theorem RunOk.tail {x : Item} {xs : List Item} (h : RunOk (x :: xs)) : RunOk xs := fun c hc => h c (List.mem_cons_of_mem _ hc)
theorem mt_run (nm rest : List Nat) : ∀ (xs : List Item) (i : Nat), RunOk xs → (Mt nm (xs.map codeOf ++ rest) i ↔ fits nm xs i = true ∧ Mt nm rest (i + xs.length))
  | [], i, _ => by simp [fits]
  | x :: xs, i, h => by
    rw [List.map_cons, List.cons_append]
    have hx : codeOf x ≠ 42 := by
      cases x with
      | none => decide
      | some c => exact (h c (List.mem_cons_self ..)).1
    have hok : (i < nm.length ∧ (codeOf x = 63 ∨ nm[i]? = some (codeOf x))) ↔ itemOk nm x i = true := by
      cases x with
      | none => simp [itemOk, codeOf]
      | some c =>
        have := (h c (List.mem_cons_self ..)).2
        simp only [codeOf, itemOk, beq_iff_eq, this, false_or]
        exact ⟨fun h => h.2, fun h => ⟨(List.getElem?_eq_some_iff.mp h).1, h⟩⟩
    rw [mt_sign _ _ _ hx, mt_run nm rest xs (i + 1) h.tail, hok]
    simp only [fits, Bool.and_eq_true, List.length_cons]
    rw [show i + 1 + xs.length = i + (xs.length + 1) by omega]
    exact ⟨fun h => ⟨⟨h.1, h.2.1⟩, h.2.2⟩, fun h => ⟨h.1.1, h.1.2, h.2⟩⟩
theorem srch_spec (nm : List Nat) (m : List Item) : ∀ (k b : Nat), nm.length + 1 - b = k →
    (srch dotS nm m (b : Int) = -1 ∧ ∀ j, b ≤ j → j ≤ nm.length → fits nm m j = false) ∨
    ∃ j, b ≤ j ∧ j ≤ nm.length ∧ fits nm m j = true ∧ (∀ q, b ≤ q → q < j → fits nm m q = false) ∧ srch dotS nm m (b : Int) = ((j + m.length : Nat) : Int)
  | 0, b, e => .inl ⟨srch_past _ _ _ (by omega), fun j h1 h2 => by omega⟩
  | k + 1, b, e => by
    rw [srch_step dotS nm m (b := (b : Int)) (by omega) (by omega), runG_dot]
    cases hf : fits nm m b
    · rw [if_pos (by simp)]
      rcases srch_spec nm m k (b + 1) (by omega) with ⟨h1, h2⟩ | ⟨j, h1, h2, h3, h4, h5⟩
      · refine .inl ⟨h1, fun j hj hj2 => ?_⟩
        rcases Nat.eq_or_lt_of_le hj with rfl | h
        · exact hf
        · exact h2 j h hj2
      · refine .inr ⟨j, by omega, h2, h3, fun q hq hq2 => ?_, h5⟩
        rcases Nat.eq_or_lt_of_le hq with rfl | h
        · exact hf
        · exact h4 q h hq2
    · refine .inr ⟨b, Nat.le_refl _, by omega, hf, fun q h1 h2 => by omega, ?_⟩
      simp only [if_true]
      rw [if_neg (by omega)]
theorem fin_iff (mark : Str) (nm : List Nat) (m : List Item) (b : Nat) : finG mark nm m (b : Int) = true ↔ ∃ j, b ≤ j ∧ j ≤ nm.length ∧ runG mark nm m (j : Int) = nm.length := by
  unfold finG
  rw [List.any_eq_true]
  constructor
  · rintro ⟨j, hj, he⟩
    have := List.mem_range.mp hj
    exact ⟨b + j, by omega, by omega, by simpa using he⟩
  · rintro ⟨j, h1, h2, h3⟩
    refine ⟨j - b, List.mem_range.mpr (by omega), ?_⟩
    rw [show (b : Int) + ((j - b : Nat) : Int) = j by omega, h3]; simp
theorem flat_cons (m : List Item) (b : List (List Item)) : flatPat [] (m :: b) = 42 :: (m.map codeOf ++ flatPat [] b) := by simp [flatPat]
theorem flat_head (a : List Item) (b : List (List Item)) : flatPat a b = a.map codeOf ++ flatPat [] b := by simp [flatPat]
theorem run_end (nm : List Nat) (m : List Item) (j : Nat) : runG dotS nm m (j : Int) = nm.length ↔ fits nm m j = true ∧ j + m.length = nm.length := by
  rw [runG_dot]
  cases fits nm m j
  · simp
  · simp only [if_true, true_and]; omega
theorem mids_neg (mark : Str) (nm : List Nat) : ∀ (mids : List (List Item)), midsG mark nm mids (-1) = -1
  | [] => rfl
  | m :: r => by
    show midsG mark nm r (srch mark nm m (-1)) = -1
    rw [srch_neg _ _ _ (by decide)]; exact mids_neg mark nm r
theorem mids_iff (nm : List Nat) (last : List Item) (hl : RunOk last) : ∀ (mids : List (List Item)) (b : Nat), (∀ m ∈ mids, RunOk m) → b ≤ nm.length →
    ((¬ midsG dotS nm mids (b : Int) < 0 ∧ finG dotS nm last (midsG dotS nm mids (b : Int)) = true) ↔ Mt nm (flatPat [] (mids ++ [last])) b)
  | [], b, _, hb => by
    have e : midsG dotS nm [] (b : Int) = b := rfl
    rw [e, fin_iff, List.nil_append, flat_cons, mt_star]
    constructor
    · rintro ⟨_, j, h1, h2, h3⟩
      have h4 := (run_end nm last j).mp h3
      exact ⟨j, h1, h2, (mt_run nm _ last j hl).mpr ⟨h4.1, h4.2⟩⟩
    · rintro ⟨j, h1, h2, h3⟩
      have h4 := (mt_run nm _ last j hl).mp h3
      exact ⟨by omega, j, h1, h2, (run_end nm last j).mpr ⟨h4.1, h4.2⟩⟩
  | m :: r, b, hm, hb => by
    have e : midsG dotS nm (m :: r) (b : Int) = midsG dotS nm r (srch dotS nm m (b : Int)) := rfl
    have hmo := hm m (List.mem_cons_self ..)
    rw [e, List.cons_append, flat_cons, mt_star]
    obtain ⟨x, ys, hxy⟩ : ∃ x ys, r ++ [last] = x :: ys := by
      cases r with
      | nil => exact ⟨_, _, rfl⟩
      | cons a c => exact ⟨_, _, rfl⟩
    rcases srch_spec nm m _ b rfl with ⟨h1, h2⟩ | ⟨j, h1, h2, h3, h4, h5⟩
    · rw [h1, mids_neg]
      constructor
      · rintro ⟨h, _⟩; exact absurd (by decide) h
      · rintro ⟨j, q1, q2, q3⟩
        have := ((mt_run nm _ m j hmo).mp q3).1
        rw [h2 j q1 q2] at this; cases this
    · have hjl : j + m.length ≤ nm.length := by
        cases hmm : m with
        | nil => simp; omega
        | cons a c => rw [← hmm]; exact fits_len nm m j h3 (by rw [hmm]; simp)
      rw [h5, mids_iff nm last hl r (j + m.length) (fun q hq => hm q (List.mem_cons_of_mem _ hq)) hjl]
      constructor
      · intro h; exact ⟨j, h1, h2, (mt_run nm _ m j hmo).mpr ⟨h3, h⟩⟩
      · rintro ⟨k, q1, q2, q3⟩
        have h6 := (mt_run nm _ m k hmo).mp q3
        have hk : j ≤ k := by
          rcases Nat.lt_or_ge k j with q | q
          · have := h4 k q1 q; rw [h6.1] at this; cases this
          · exact q
        have h7 := h6.2
        rw [hxy, flat_cons] at h7 ⊢
        exact mt_mono h7 (by omega)
theorem bare_means (nm : List Nat) (seg0 last : List Item) (mids : List (List Item)) (h0 : RunOk seg0) (hl : RunOk last) (hm : ∀ m ∈ mids, RunOk m) :
    takesG dotS nm seg0 mids last = meansF nm (flatPat seg0 (mids ++ [last])) [0] := by
  rw [Bool.eq_iff_iff, means_iff nm _ [0] (by simp) (by simp)]
  have e0 : (∃ i : Nat, (i : Int) ∈ [(0 : Int)] ∧ Mt nm (flatPat seg0 (mids ++ [last])) i) ↔ Mt nm (flatPat seg0 (mids ++ [last])) 0 := by
    constructor
    · rintro ⟨i, hi, h⟩
      have : i = 0 := by simpa using hi
      exact this ▸ h
    · intro h; exact ⟨0, by simp, h⟩
  rw [e0, flat_head, mt_run nm _ seg0 0 h0]
  unfold takesG
  rw [show (0 : Int) = ((0 : Nat) : Int) from rfl, runG_dot]
  cases hf : fits nm seg0 0
  · simp only [Bool.false_eq_true, if_false]
    rw [mids_neg]
    simp
  · simp only [if_true, true_and]
    have hjl : 0 + seg0.length ≤ nm.length := by
      cases hmm : seg0 with
      | nil => simp
      | cons a c => rw [← hmm]; exact fits_len nm seg0 0 hf (by rw [hmm]; simp)
    rw [← mids_iff nm last hl mids (0 + seg0.length) hm hjl]
    split
    · rename_i h; exact ⟨fun q => (by cases q), fun q => absurd h q.1⟩
    · rename_i h; exact ⟨fun q => ⟨h, q⟩, fun q => q.2⟩
theorem segs_runOk : ∀ pat : List Nat, RunOk (segsOf pat).1 ∧ ∀ m ∈ (segsOf pat).2, RunOk m
  | [] => ⟨fun c h => by simp [segsOf] at h, fun m h => by simp [segsOf] at h⟩
  | c :: r => by
    obtain ⟨h1, h2⟩ := segs_runOk r
    have hnil : RunOk [] := fun c h => by cases h
    by_cases hc : c = 42
    · subst hc
      by_cases hs : (segsOf r).1 = [] ∧ (segsOf r).2 ≠ []
      · have e : segsOf (42 :: r) = ([], (segsOf r).2) := by simp [segsOf, hs]
        rw [e]; exact ⟨hnil, h2⟩
      · have e : segsOf (42 :: r) = ([], (segsOf r).1 :: (segsOf r).2) := by simp only [segsOf, if_true, if_neg hs]
        rw [e]
        refine ⟨hnil, fun m hm => ?_⟩
        rcases List.mem_cons.mp hm with rfl | hm
        · exact h1
        · exact h2 m hm
    · have e : segsOf (c :: r) = (itemOf c :: (segsOf r).1, (segsOf r).2) := by simp only [segsOf, if_neg hc]
      rw [e]
      refine ⟨fun d hd => ?_, h2⟩
      rcases List.mem_cons.mp hd with hd | hd
      · unfold itemOf at hd
        split at hd
        · cases hd
        · rename_i h63
          cases hd; exact ⟨hc, h63⟩
      · exact h1 d hd
/-- a pattern's bare text takes what it means -/
theorem bare_law (nm pat : List Nat) (mids : List (List Item)) (last : List Item) (h : (segsOf pat).2 = mids ++ [last]) : takesG dotS nm (segsOf pat).1 mids last = meansF nm pat [0] := by
  obtain ⟨h1, h2⟩ := segs_runOk pat
  rw [h] at h2
  rw [means_flat, h]
  exact bare_means nm _ last mids h1 (h2 _ (by simp)) (fun m hm => h2 m (by simp [hm]))
end Mine
end
section -- D10
namespace Mine
open PySem.Builtin PySem.Builtin.Str PySem.StrLaws
/-- a sign, written -/
def esc (c : Nat) : List Nat := if c = 38 then [38, 97, 109, 112, 59] else if c = 62 then [38, 103, 116, 59] else if c = 60 then [38, 108, 116, 59] else [c]
def escL (l : List Nat) : List Nat := l.flatMap esc
def expI : Item → List Item
  | none => [none]
  | some c => (esc c).map some
def expL (xs : List Item) : List Item := xs.flatMap expI
def Sgn (c : Nat) : Prop := c = 38 ∨ c = 60 ∨ c = 62 ∨ c = 98 ∨ c = 34 ∨ c = 46
def markL : List Nat := [40, 63, 58, 38, 40, 63, 58, 97, 109, 112, 124, 108, 116, 124, 103, 116, 41, 59, 124, 91, 94, 38, 97, 103, 108, 109, 112, 116, 59, 93, 41]
def insL : List Nat := [38, 97, 103, 108, 109, 112, 116, 59]
/-- the size of one written sign at the head of a text -/
def oneL (R : List Nat) : Nat := if R.take 5 = [38, 97, 109, 112, 59] then 5 else if R.take 4 = [38, 108, 116, 59] then 4 else if R.take 4 = [38, 103, 116, 59] then 4 else match R with | [] => 0 | d :: _ => if d ∈ insL then 0 else 1
theorem occ_empty (y : List Nat) : (occurrences (tx y) (tx []) 0 (tx y).length 1).isEmpty = false := by
  have := (found_iff (tx y) (tx [])).mpr ⟨0, by simp [Str.length], by rw [subAt_eq]; simp [Str.length]⟩
  simpa using this
theorem oneF_mark (E : List Nat) (p : Nat) : oneF (tx markL) (tx E) (p : Int) = (oneL (E.drop p) : Int) := by
  have e1 : Txt.slice (tx E) (some (p : Int)) (some ((p : Int) + 1)) = tx ((E.drop p).take 1) := sl_nat E p 1 rfl
  have e5 : Txt.slice (tx E) (some (p : Int)) (some ((p : Int) + 5)) = tx ((E.drop p).take 5) := sl_nat E p 5 rfl
  have e4 : Txt.slice (tx E) (some (p : Int)) (some ((p : Int) + 4)) = tx ((E.drop p).take 4) := sl_nat E p 4 rfl
  have m0 : (tx markL == Str.ofString ".") = false := by decide +kernel
  have a0 : Str.ofString "&amp;" = tx [38, 97, 109, 112, 59] := by decide +kernel
  have l0 : Str.ofString "&lt;" = tx [38, 108, 116, 59] := by decide +kernel
  have g0 : Str.ofString "&gt;" = tx [38, 103, 116, 59] := by decide +kernel
  have i0 : Str.ofString "&aglmpt;" = tx insL := by decide +kernel
  unfold oneF oneL
  rw [m0, e1, e5, e4, a0, l0, g0, i0]
  generalize E.drop p = R
  simp only [tx_beq, beq_iff_eq, Bool.false_eq_true, if_false]
  by_cases h1 : R.take 5 = [38, 97, 109, 112, 59]
  · rw [if_pos h1, if_pos h1]; rfl
  rw [if_neg h1, if_neg h1]
  by_cases h2 : R.take 4 = [38, 108, 116, 59]
  · rw [if_pos h2, if_pos h2]; rfl
  rw [if_neg h2, if_neg h2]
  by_cases h3 : R.take 4 = [38, 103, 116, 59]
  · rw [if_pos h3, if_pos h3]; rfl
  rw [if_neg h3, if_neg h3]
  cases R with
  | nil =>
    rw [List.take_nil, occ_empty]; rfl
  | cons d r =>
    have hf := found_one (tx insL) d
    rw [show (tx insL).cps.toList = insL from rfl] at hf
    show (if (occurrences (tx insL) (tx [d]) 0 (tx insL).length 1).isEmpty = true then (1 : Int) else 0) = ((if d ∈ insL then 0 else 1 : Nat) : Int)
    by_cases hd : d ∈ insL
    · rw [if_pos hd]
      have : (occurrences (tx insL) (tx [d]) 0 (tx insL).length 1).isEmpty = false := by simpa [hd] using hf
      rw [this]; rfl
    · rw [if_neg hd]
      have : (occurrences (tx insL) (tx [d]) 0 (tx insL).length 1).isEmpty = true := by simpa [hd] using hf
      rw [this]; rfl
theorem stepF_mark (E : List Nat) (p : Nat) (x : Item) : stepF (tx markL) E (p : Int) x = ((match x with | none => oneL (E.drop p) | some c => if (E.drop p).head? = some c then 1 else 0 : Nat) : Int) := by
  cases x with
  | none => exact oneF_mark E p
  | some c =>
    show (if E[(p : Int).toNat]? = some c then (1 : Int) else 0) = ((if (E.drop p).head? = some c then 1 else 0 : Nat) : Int)
    rw [List.head?_drop, Int.toNat_natCast]
    split <;> rfl
theorem run_lits (E : List Nat) (rest : List Item) : ∀ (l : List Nat) (p : Nat), runG (tx markL) E (l.map some ++ rest) (p : Int) = if l.isPrefixOf (E.drop p) then runG (tx markL) E rest ((p + l.length : Nat) : Int) else -1
  | [], p => by simp [List.isPrefixOf]
  | c :: l, p => by
    show (if stepF (tx markL) E p (some c) = 0 then -1 else runG (tx markL) E (l.map some ++ rest) (p + stepF (tx markL) E p (some c))) = _
    rw [stepF_mark]
    cases hd : E.drop p with
    | nil => simp [List.isPrefixOf]
    | cons d r =>
      have hr : E.drop (p + 1) = r := by rw [← List.drop_drop, hd]; rfl
      by_cases hc : d = c
      · subst hc
        have ih := run_lits E rest l (p + 1)
        rw [hr] at ih
        simp only [List.head?_cons, if_true, List.isPrefixOf, beq_self_eq_true, Bool.true_and, List.length_cons]
        rw [if_neg (by decide), show ((p : Int) + ((1 : Nat) : Int)) = ((p + 1 : Nat) : Int) by omega, ih, show p + 1 + l.length = p + (l.length + 1) by omega]
      · have hc' : ¬ c = d := fun h => hc h.symm
        simp [List.isPrefixOf, hc, hc']
theorem esc_prefix {c d : Nat} (hc : Sgn c) (hd : Sgn d) (r : List Nat) : (esc c).isPrefixOf (esc d ++ r) = decide (d = c) := by
  unfold Sgn at hc hd
  rcases hc with rfl | rfl | rfl | rfl | rfl | rfl <;> rcases hd with rfl | rfl | rfl | rfl | rfl | rfl <;> rfl
theorem esc_pos (c : Nat) : 1 ≤ (esc c).length ∧ (esc c).length ≤ 5 := by unfold esc; split; simp; split; simp; split <;> simp
theorem oneL_esc {d : Nat} (hd : Sgn d) (r : List Nat) : oneL (esc d ++ r) = (esc d).length := by
  unfold Sgn at hd
  rcases hd with rfl | rfl | rfl | rfl | rfl | rfl <;> simp [oneL, esc, insL]
/-- the signs inside the written ones -/
def tlL : List Nat := [97, 109, 112, 59, 103, 108, 116]
theorem tail_dec : ∀ d ∈ [38, 60, 62, 98, 34, 46], ∀ t ∈ [1, 2, 3, 4], t < (esc d).length → (((esc d).drop t).head?.elim false fun h => decide (h ∈ tlL)) = true := by decide
theorem first_dec : ∀ c ∈ [38, 60, 62, 98, 34, 46], ((esc c).head?.elim false fun h => decide (¬ h ∈ tlL)) = true := by decide
theorem sgn_mem {c : Nat} (h : Sgn c) : c ∈ [38, 60, 62, 98, 34, 46] := by
  unfold Sgn at h
  rcases h with rfl | rfl | rfl | rfl | rfl | rfl <;> decide
theorem small_mem {t : Nat} (h0 : 0 < t) (h : t < 5) : t ∈ [1, 2, 3, 4] := by
  match t, h0, h with
  | 1, _, _ => decide
  | 2, _, _ => decide
  | 3, _, _ => decide
  | 4, _, _ => decide
theorem tl_facts : ∀ h ∈ tlL, h ≠ 38 ∧ h ∈ insL := by decide
theorem take_head {h : Nat} {X l : List Nat} (n : Nat) (hh : h ≠ 38) : ¬ (h :: X).take (n + 1) = 38 :: l := fun e => hh (List.cons.inj e).1
theorem oneL_tl {h : Nat} (hh : h ∈ tlL) (X : List Nat) : oneL (h :: X) = 0 := by
  obtain ⟨h1, h2⟩ := tl_facts h hh
  unfold oneL
  rw [if_neg (take_head 4 h1), if_neg (take_head 3 h1), if_neg (take_head 3 h1)]
  exact if_pos h2
/-- inside a written sign nothing begins -/
theorem oneL_in {d : Nat} (hd : Sgn d) (r : List Nat) {t : Nat} (h0 : 0 < t) (h1 : t < (esc d).length) : oneL ((esc d).drop t ++ r) = 0 ∧ ∀ c, Sgn c → ((esc d).drop t ++ r).head? ≠ (esc c).head? := by
  have h5 := Nat.lt_of_lt_of_le h1 (esc_pos d).2
  have key := tail_dec d (sgn_mem hd) t (small_mem h0 h5) h1
  cases hdr : (esc d).drop t with
  | nil => rw [hdr] at key; cases key
  | cons h X =>
    rw [hdr] at key
    have hh : h ∈ tlL := of_decide_eq_true key
    refine ⟨oneL_tl hh _, fun c hc e => ?_⟩
    have k2 := first_dec c (sgn_mem hc)
    rw [← e] at k2
    exact (of_decide_eq_true k2) hh
def posN (nm : List Nat) (i : Nat) : Nat := (escL (nm.take i)).length
theorem escL_split (nm : List Nat) (i : Nat) : escL nm = escL (nm.take i) ++ escL (nm.drop i) := by unfold escL; rw [← List.flatMap_append, List.take_append_drop]
theorem drop_pos (nm : List Nat) (i : Nat) : (escL nm).drop (posN nm i) = escL (nm.drop i) := by
  unfold posN
  conv => lhs; rw [escL_split nm i]
  rw [List.drop_left]
theorem pos_succ {nm : List Nat} {i d : Nat} (h : nm[i]? = some d) : posN nm (i + 1) = posN nm i + (esc d).length := by
  unfold posN
  rw [List.take_add_one, h]
  unfold escL
  rw [List.flatMap_append, List.length_append]
  simp
theorem pos_len (nm : List Nat) : posN nm nm.length = (escL nm).length := by unfold posN; rw [List.take_length]
theorem pos_zero (nm : List Nat) : posN nm 0 = 0 := rfl
theorem pos_lt {nm : List Nat} {i : Nat} (h : i < nm.length) : posN nm i < posN nm (i + 1) := by
  rw [pos_succ (List.getElem?_eq_getElem h)]
  have := (esc_pos nm[i]).1; omega
theorem pos_mono (nm : List Nat) {i : Nat} : ∀ {j : Nat}, i ≤ j → j ≤ nm.length → posN nm i ≤ posN nm j
  | 0, h, _ => by have : i = 0 := by omega
                  rw [this]; exact Nat.le_refl _
  | j + 1, h, h2 => by
    rcases Nat.eq_or_lt_of_le h with rfl | h
    · exact Nat.le_refl _
    · exact Nat.le_trans (pos_mono nm (by omega : i ≤ j) (by omega)) (Nat.le_of_lt (pos_lt (by omega)))
theorem pos_le (nm : List Nat) {i : Nat} (h : i ≤ nm.length) : posN nm i ≤ (escL nm).length := by rw [← pos_len]; exact pos_mono nm h (Nat.le_refl _)
theorem pos_strict (nm : List Nat) {i j : Nat} (h : i < j) (hj : j ≤ nm.length) : posN nm i < posN nm j := Nat.lt_of_lt_of_le (pos_lt (by omega)) (pos_mono nm h hj)
def NmOk (nm : List Nat) : Prop := ∀ c ∈ nm, Sgn c
def ItOk (xs : List Item) : Prop := ∀ c, some c ∈ xs → Sgn c
theorem ItOk.tail {x : Item} {xs : List Item} (h : ItOk (x :: xs)) : ItOk xs := fun c hc => h c (List.mem_cons_of_mem _ hc)
theorem drop_at {nm : List Nat} {i d : Nat} (h : nm[i]? = some d) : escL (nm.drop i) = esc d ++ escL (nm.drop (i + 1)) := by
  obtain ⟨hl, rfl⟩ := List.getElem?_eq_some_iff.mp h
  show (nm.drop i).flatMap esc = _
  rw [List.drop_eq_getElem_cons hl, List.flatMap_cons]; rfl
theorem run_esc (nm : List Nat) (hn : NmOk nm) : ∀ (xs : List Item) (i : Nat), ItOk xs → i ≤ nm.length → runG (tx markL) (escL nm) (expL xs) (posN nm i : Nat) = if fits nm xs i then ((posN nm (i + xs.length) : Nat) : Int) else -1
  | [], i, _, _ => by simp [expL, runG, fits]
  | x :: xs, i, hx, hi => by
    have ex : expL (x :: xs) = expI x ++ expL xs := by simp [expL]
    rw [ex]
    rcases Nat.eq_or_lt_of_le hi with he | hlt
    · have hdr : (escL nm).drop (posN nm i) = [] := by rw [drop_pos, he, List.drop_length]; rfl
      have hf : fits nm (x :: xs) i = false := by
        have : itemOk nm x i = false := by
          cases x with
          | none => simp [itemOk]; omega
          | some c => simp only [itemOk]; rw [List.getElem?_eq_none (by omega)]; rfl
        simp [fits, this]
      rw [hf]
      cases x with
      | none =>
        show (if stepF (tx markL) (escL nm) (posN nm i : Nat) none = 0 then -1 else _) = _
        rw [stepF_mark]; simp only [hdr]; rfl
      | some c =>
        show runG (tx markL) (escL nm) ((esc c).map some ++ expL xs) _ = _
        rw [run_lits, hdr]
        have : (esc c).isPrefixOf [] = false := by
          cases h : esc c with
          | nil => have := (esc_pos c).1; rw [h] at this; cases this
          | cons a b => rfl
        rw [this]; rfl
    · have hg : nm[i]? = some nm[i] := List.getElem?_eq_getElem hlt
      have hd := hn _ (List.getElem_mem hlt)
      have hps := pos_succ hg
      have hdr : (escL nm).drop (posN nm i) = esc nm[i] ++ escL (nm.drop (i + 1)) := by rw [drop_pos, drop_at hg]
      have ih := run_esc nm hn xs (i + 1) hx.tail hlt
      have el : i + 1 + xs.length = i + (x :: xs).length := by simp only [List.length_cons]; omega
      rw [el] at ih
      cases x with
      | none =>
        show (if stepF (tx markL) (escL nm) (posN nm i : Nat) none = 0 then -1 else runG (tx markL) (escL nm) (expL xs) ((posN nm i : Nat) + stepF (tx markL) (escL nm) (posN nm i : Nat) none)) = _
        have hs : stepF (tx markL) (escL nm) (posN nm i : Nat) none = ((esc nm[i]).length : Int) := by
          rw [stepF_mark]; simp only [hdr, oneL_esc hd]
        have h1 := (esc_pos nm[i]).1
        rw [hs, if_neg (by omega), show ((posN nm i : Nat) : Int) + ((esc nm[i]).length : Int) = ((posN nm (i + 1) : Nat) : Int) by omega, ih]
        have : fits nm (none :: xs) i = fits nm xs (i + 1) := by simp [fits, itemOk, hlt]
        rw [this]
      | some c =>
        show runG (tx markL) (escL nm) ((esc c).map some ++ expL xs) _ = _
        have hc := hx c (List.mem_cons_self ..)
        rw [run_lits, hdr, esc_prefix hc hd]
        have hfi : fits nm (some c :: xs) i = (decide (nm[i] = c) && fits nm xs (i + 1)) := by
          show (nm[i]? == some c && fits nm xs (i + 1)) = _
          rw [hg]; by_cases h : nm[i] = c <;> simp [h]
        rw [hfi]
        by_cases h : nm[i] = c
        · rw [h] at hps
          simp only [h, decide_true, if_true, Bool.true_and]
          rw [show posN nm i + (esc c).length = posN nm (i + 1) by omega, ih]
        · simp [h]
theorem run_in (nm : List Nat) (hn : NmOk nm) (x : Item) (xs : List Item) (hx : ItOk (x :: xs)) {i t : Nat} (hi : i < nm.length) (h0 : 0 < t) (h1 : posN nm i + t < posN nm (i + 1)) :
    runG (tx markL) (escL nm) (expL (x :: xs)) ((posN nm i + t : Nat) : Int) = -1 := by
  have ex : expL (x :: xs) = expI x ++ expL xs := by simp [expL]
  have hg : nm[i]? = some nm[i] := List.getElem?_eq_getElem hi
  have hd := hn _ (List.getElem_mem hi)
  have hps := pos_succ hg
  have ht : t < (esc nm[i]).length := by omega
  have hdr : (escL nm).drop (posN nm i + t) = (esc nm[i]).drop t ++ escL (nm.drop (i + 1)) := by
    rw [← List.drop_drop, drop_pos, drop_at hg, List.drop_append_of_le_length (Nat.le_of_lt ht)]
  obtain ⟨q1, q2⟩ := oneL_in hd (escL (nm.drop (i + 1))) h0 ht
  rw [ex]
  cases x with
  | none =>
    show (if stepF (tx markL) (escL nm) ((posN nm i + t : Nat) : Int) none = 0 then -1 else _) = _
    rw [stepF_mark]; simp only [hdr, q1]; rfl
  | some c =>
    have hc := hx c (List.mem_cons_self ..)
    have := q2 c hc
    show runG (tx markL) (escL nm) ((esc c).map some ++ expL xs) _ = _
    cases h : esc c with
    | nil => have := (esc_pos c).1; rw [h] at this; cases this
    | cons a b =>
      rw [h] at this
      show (if stepF (tx markL) (escL nm) ((posN nm i + t : Nat) : Int) (some a) = 0 then -1 else _) = _
      have hz : stepF (tx markL) (escL nm) ((posN nm i + t : Nat) : Int) (some a) = 0 := by
        have this' : ¬ (List.drop t (esc nm[i]) ++ escL (List.drop (i + 1) nm)).head? = some a := this
        rw [stepF_mark]; simp only [hdr]
        rw [if_neg this']; rfl
      rw [hz, if_pos rfl]
/-- places of the bare name, in the written one -/
def posI (nm : List Nat) (z : Int) : Int := if z < 0 then -1 else ((posN nm z.toNat : Nat) : Int)
theorem posI_nat (nm : List Nat) (i : Nat) : posI nm (i : Int) = ((posN nm i : Nat) : Int) := by unfold posI; rw [if_neg (by omega), Int.toNat_natCast]
theorem posI_neg (nm : List Nat) : posI nm (-1) = -1 := by unfold posI; rw [if_pos (by decide)]
theorem run_pos (nm : List Nat) (hn : NmOk nm) (xs : List Item) (i : Nat) (hx : ItOk xs) (hi : i ≤ nm.length) : runG (tx markL) (escL nm) (expL xs) (posN nm i : Nat) = posI nm (runG dotS nm xs (i : Int)) := by
  rw [run_esc nm hn xs i hx hi, runG_dot]
  split
  · rw [posI_nat]
  · rw [posI_neg]
theorem srch_skip (nm : List Nat) (hn : NmOk nm) (x : Item) (xs : List Item) (hx : ItOk (x :: xs)) {i : Nat} (hi : i < nm.length) : ∀ (k t : Nat), 0 < t → posN nm i + t + k = posN nm (i + 1) →
    srch (tx markL) (escL nm) (expL (x :: xs)) ((posN nm i + t : Nat) : Int) = srch (tx markL) (escL nm) (expL (x :: xs)) ((posN nm (i + 1) : Nat) : Int)
  | 0, t, _, e => by rw [← e]; rfl
  | k + 1, t, h0, e => by
    have hle := pos_le nm (show i + 1 ≤ nm.length from hi)
    rw [srch_step _ _ _ (by omega) (by omega), run_in nm hn x xs hx hi h0 (by omega), if_pos (by decide), ← srch_skip nm hn x xs hx hi k (t + 1) (by omega) (by omega)]
    congr 1
theorem srch_esc (nm : List Nat) (hn : NmOk nm) (x : Item) (xs : List Item) (hx : ItOk (x :: xs)) : ∀ (k i : Nat), nm.length - i = k → i ≤ nm.length →
    srch (tx markL) (escL nm) (expL (x :: xs)) (posN nm i : Nat) = posI nm (srch dotS nm (x :: xs) (i : Int))
  | k, i, e, hi => by
    have hle := pos_le nm hi
    rw [srch_step (tx markL) _ _ (b := ((posN nm i : Nat) : Int)) (by omega) (by omega), srch_step dotS _ _ (b := (i : Int)) (by omega) (by omega), run_pos nm hn _ i hx hi]
    have hr : runG dotS nm (x :: xs) (i : Int) = -1 ∨ ∃ j : Nat, runG dotS nm (x :: xs) (i : Int) = (j : Int) := by
      rw [runG_dot]; split
      · exact .inr ⟨_, rfl⟩
      · exact .inl rfl
    rcases hr with hr | ⟨j, hr⟩
    · rw [hr, posI_neg, if_pos (by decide), if_pos (by decide)]
      rcases Nat.eq_or_lt_of_le hi with he | hlt
      · rw [srch_past dotS nm _ (by omega), posI_neg, srch_past]
        rw [he, pos_len]; omega
      · cases k with
        | zero => omega
        | succ k =>
          have ih := srch_esc nm hn x xs hx k (i + 1) (by omega) hlt
          have hp := pos_lt hlt
          have sk := srch_skip nm hn x xs hx hlt (posN nm (i + 1) - posN nm i - 1) 1 (by omega) (by omega)
          rw [show ((posN nm i : Nat) : Int) + 1 = ((posN nm i + 1 : Nat) : Int) by omega, sk, ih]
          congr 1
    · rw [hr, posI_nat, if_neg (by omega), if_neg (by omega), posI_nat]
theorem srch_posI (nm : List Nat) (hn : NmOk nm) (m : List Item) (hm : m ≠ []) (hx : ItOk m) (z : Int) (hz : z = -1 ∨ (0 ≤ z ∧ z ≤ nm.length)) :
    srch (tx markL) (escL nm) (expL m) (posI nm z) = posI nm (srch dotS nm m z) := by
  rcases hz with rfl | ⟨h0, h1⟩
  · rw [posI_neg, srch_neg _ _ _ (by decide), srch_neg _ _ _ (by decide), posI_neg]
  · obtain ⟨i, rfl⟩ : ∃ i : Nat, z = (i : Int) := ⟨z.toNat, by omega⟩
    cases m with
    | nil => exact absurd rfl hm
    | cons x xs => rw [posI_nat]; exact srch_esc nm hn x xs hx _ i rfl (by omega)
theorem mids_posI (nm : List Nat) (hn : NmOk nm) : ∀ (mids : List (List Item)) (z : Int), (∀ m ∈ mids, m ≠ [] ∧ ItOk m) → (z = -1 ∨ (0 ≤ z ∧ z ≤ nm.length)) →
    midsG (tx markL) (escL nm) (mids.map expL) (posI nm z) = posI nm (midsG dotS nm mids z)
  | [], _, _, _ => rfl
  | m :: r, z, hm, hz => by
    have h1 := hm m (List.mem_cons_self ..)
    show midsG (tx markL) (escL nm) (r.map expL) (srch (tx markL) (escL nm) (expL m) (posI nm z)) = posI nm (midsG dotS nm r (srch dotS nm m z))
    rw [srch_posI nm hn m h1.1 h1.2 z hz]
    exact mids_posI nm hn r _ (fun q hq => hm q (List.mem_cons_of_mem _ hq)) (srch_bd dotS nm m z)
theorem pos_cover (nm : List Nat) (p : Nat) : ∀ k : Nat, k ≤ nm.length → p < posN nm k → ∃ i t, i < k ∧ p = posN nm i + t ∧ posN nm i + t < posN nm (i + 1)
  | 0, _, h => by rw [pos_zero] at h; omega
  | k + 1, hk, h => by
    rcases Nat.lt_or_ge p (posN nm k) with q | q
    · obtain ⟨i, t, h1, h2, h3⟩ := pos_cover nm p k (by omega) q
      exact ⟨i, t, by omega, h2, h3⟩
    · exact ⟨k, p - posN nm k, by omega, by omega, by omega⟩
theorem fin_esc (nm : List Nat) (hn : NmOk nm) (last : List Item) (hx : ItOk last) (i : Nat) (hi : i ≤ nm.length) :
    finG (tx markL) (escL nm) (expL last) (posN nm i : Nat) = finG dotS nm last (i : Int) := by
  rw [Bool.eq_iff_iff, fin_iff, fin_iff]
  constructor
  · rintro ⟨p, h1, h2, h3⟩
    rw [← pos_len] at h2
    have key : ∀ j, i ≤ j → j ≤ nm.length → p = posN nm j → ∃ j, i ≤ j ∧ j ≤ nm.length ∧ runG dotS nm last (j : Int) = nm.length := by
      rintro j hj1 hj2 rfl
      refine ⟨j, hj1, hj2, ?_⟩
      rw [run_esc nm hn last j hx hj2] at h3
      rw [runG_dot]
      cases hf : fits nm last j
      · rw [hf] at h3; simp at h3
      · rw [hf] at h3
        simp only [if_true] at h3 ⊢
        rw [← pos_len] at h3
        have hjl : j + last.length ≤ nm.length := by
          cases hmm : last with
          | nil => simp; omega
          | cons a c => rw [← hmm]; exact fits_len nm last j hf (by rw [hmm]; simp)
        rcases Nat.eq_or_lt_of_le hjl with q | q
        · omega
        · have := pos_strict nm q (Nat.le_refl _); omega
    rcases Nat.eq_or_lt_of_le h2 with he | hlt
    · exact key nm.length hi (Nat.le_refl _) he
    · obtain ⟨j, t, q1, q2, q3⟩ := pos_cover nm p nm.length (Nat.le_refl _) hlt
      rcases Nat.eq_zero_or_pos t with ht | ht
      · subst ht
        refine key j ?_ (by omega) q2
        rcases Nat.lt_or_ge j i with q | q
        · have := pos_strict nm q hi; omega
        · exact q
      · exfalso
        cases last with
        | nil =>
          have e : runG (tx markL) (escL nm) (expL []) (p : Int) = p := rfl
          rw [e, ← pos_len] at h3; omega
        | cons x xs =>
          rw [q2, run_in nm hn x xs hx q1 ht q3] at h3; omega
  · rintro ⟨j, h1, h2, h3⟩
    refine ⟨posN nm j, pos_mono nm h1 h2, pos_le nm h2, ?_⟩
    rw [run_pos nm hn last j hx h2, h3, posI_nat, pos_len]
/-- through the writing a pattern's runs fit as they fit bare -/
theorem takes_esc (nm : List Nat) (hn : NmOk nm) (seg0 last : List Item) (mids : List (List Item)) (h0 : ItOk seg0) (hl : ItOk last) (hm : ∀ m ∈ mids, m ≠ [] ∧ ItOk m) :
    takesG (tx markL) (escL nm) (expL seg0) (mids.map expL) (expL last) = takesG dotS nm seg0 mids last := by
  unfold takesG
  have e0 : runG (tx markL) (escL nm) (expL seg0) 0 = posI nm (runG dotS nm seg0 0) := run_pos nm hn seg0 0 h0 (Nat.zero_le _)
  have hb := runG_bd dotS nm seg0 0 (by omega) (by omega)
  have hb' : runG dotS nm seg0 0 = -1 ∨ (0 ≤ runG dotS nm seg0 0 ∧ runG dotS nm seg0 0 ≤ nm.length) := hb
  rw [e0, mids_posI nm hn mids _ hm hb']
  have hm2 := midsG_bd dotS nm mids _ hb'
  generalize midsG dotS nm mids (runG dotS nm seg0 0) = z at hm2
  rcases hm2 with rfl | ⟨h1, h2⟩
  · rw [posI_neg, if_pos (by decide), if_pos (by decide)]
  · obtain ⟨i, rfl⟩ : ∃ i : Nat, z = (i : Int) := ⟨z.toNat, by omega⟩
    rw [posI_nat, if_neg (by omega), if_neg (by omega)]
    exact fin_esc nm hn last hl i (by omega)
end Mine
end
section -- D11
namespace Mine
open PySem.Builtin PySem.Builtin.Str PySem.StrLaws
/-- one sign put for another -/
def subst (c : Nat) (z l : List Nat) : List Nat := l.flatMap fun k => if k = c then z else [k]
theorem subst_free (c : Nat) (z : List Nat) : ∀ l : List Nat, c ∉ l → subst c z l = l
  | [], _ => rfl
  | k :: r, h => by
    have h1 : ¬ k = c := fun e => h (e ▸ List.mem_cons_self ..)
    have ih := subst_free c z r fun m => h (List.mem_cons_of_mem _ m)
    show (k :: r).flatMap _ = _
    rw [List.flatMap_cons, if_neg h1]
    show [k] ++ subst c z r = _
    rw [ih]; rfl
theorem subst_app (c : Nat) (z a b : List Nat) : subst c z (a ++ b) = subst c z a ++ subst c z b := by unfold subst; rw [List.flatMap_append]
theorem subst_join (c : Nat) (z : List Nat) : ∀ parts : List Str, (∀ p ∈ parts, c ∉ p.cps.toList) → subst c z (Str.join ⟨#[c]⟩ parts).cps.toList = (Str.join (tx z) parts).cps.toList
  | [], _ => rfl
  | [p], h => subst_free c z _ (h p (List.mem_singleton.mpr rfl))
  | p :: q :: r, h => by
    have ih := subst_join c z (q :: r) fun a ha => h a (List.mem_cons_of_mem _ ha)
    show subst c z (p ++ ⟨#[c]⟩ ++ Str.join ⟨#[c]⟩ (q :: r)).cps.toList = (p ++ tx z ++ Str.join (tx z) (q :: r)).cps.toList
    simp only [Str.cps_append, Array.toList_append]
    rw [subst_app, subst_app, ih, subst_free c z _ (h p (List.mem_cons_self ..))]
    simp [subst]
theorem replace_sign (l z : List Nat) (c : Nat) : Txt.replace (tx l) (tx [c]) (tx z) = tx (subst c z l) := by
  have h := replace_one (tx l) (tx z) c
  refine Str.ext' (Array.toList_inj.mp ?_)
  show (Txt.replace (tx l) ⟨#[c]⟩ (tx z)).cps.toList = subst c z l
  rw [h, ← subst_join c z _ (split_free (tx l) c), join_split]
theorem escF_tx (l : List Nat) : Txt.replace (Txt.replace (Txt.replace (tx l) (Str.ofString "&") (Str.ofString "&amp;")) (Str.ofString ">") (Str.ofString "&gt;")) (Str.ofString "<") (Str.ofString "&lt;") = tx (escL l) := by
  have a0 : Str.ofString "&" = tx [38] := by decide +kernel
  have a1 : Str.ofString "&amp;" = tx [38, 97, 109, 112, 59] := by decide +kernel
  have g0 : Str.ofString ">" = tx [62] := by decide +kernel
  have g1 : Str.ofString "&gt;" = tx [38, 103, 116, 59] := by decide +kernel
  have l0 : Str.ofString "<" = tx [60] := by decide +kernel
  have l1 : Str.ofString "&lt;" = tx [38, 108, 116, 59] := by decide +kernel
  rw [a0, a1, g0, g1, l0, l1, replace_sign, replace_sign, replace_sign]
  congr 2
  show subst 60 _ (subst 62 _ (subst 38 _ l)) = l.flatMap esc
  induction l with
  | nil => rfl
  | cons k r ih =>
    have e : k :: r = [k] ++ r := rfl
    rw [e, subst_app, subst_app, subst_app, ih, List.flatMap_append]
    congr 1
    show _ = [k].flatMap esc
    by_cases h1 : k = 38
    · subst h1; rfl
    by_cases h2 : k = 62
    · subst h2; rfl
    by_cases h3 : k = 60
    · subst h3; rfl
    rw [subst_free 38 _ [k] (by simpa using fun h => h1 h.symm), subst_free 62 _ [k] (by simpa using fun h => h2 h.symm), subst_free 60 _ [k] (by simpa using fun h => h3 h.symm)]
    simp [esc, h1, h2, h3]
def PatOk (pat : List Nat) : Prop := ∀ c ∈ pat, c = 42 ∨ c = 63 ∨ Sgn c
theorem PatOk.tail {c : Nat} {r : List Nat} (h : PatOk (c :: r)) : PatOk r := fun d hd => h d (List.mem_cons_of_mem _ hd)
theorem segs_sign {c : Nat} (r : List Nat) (h : c ≠ 42) : segsOf (c :: r) = (itemOf c :: (segsOf r).1, (segsOf r).2) := by simp only [segsOf, if_neg h]
theorem segs_lits (X : List Nat) : ∀ l : List Nat, (∀ c ∈ l, c ≠ 42 ∧ c ≠ 63) → segsOf (l ++ X) = (l.map some ++ (segsOf X).1, (segsOf X).2)
  | [], _ => rfl
  | c :: l, h => by
    have hc := h c (List.mem_cons_self ..)
    have ih := segs_lits X l fun d hd => h d (List.mem_cons_of_mem _ hd)
    rw [List.cons_append, segs_sign _ hc.1, ih]
    simp [itemOf, hc.2]
theorem esc_plain {c : Nat} (h : Sgn c) : ∀ d ∈ esc c, d ≠ 42 ∧ d ≠ 63 := by
  unfold Sgn at h
  rcases h with rfl | rfl | rfl | rfl | rfl | rfl <;> decide
theorem expL_nil {xs : List Item} : expL xs = [] ↔ xs = [] := by
  cases xs with
  | nil => exact ⟨fun _ => rfl, fun _ => rfl⟩
  | cons x r =>
    refine ⟨fun h => ?_, fun h => nomatch h⟩
    exfalso
    have e : expL (x :: r) = expI x ++ expL r := by simp [expL]
    rw [e] at h
    have h1 := (List.append_eq_nil_iff.mp h).1
    cases x with
    | none => cases h1
    | some c =>
      have := (esc_pos c).1
      rw [List.map_eq_nil_iff.mp h1] at this; cases this
theorem segs_esc : ∀ pat : List Nat, PatOk pat → segsOf (escL pat) = (expL (segsOf pat).1, (segsOf pat).2.map expL)
  | [], _ => rfl
  | c :: r, h => by
    have ih := segs_esc r h.tail
    have e : escL (c :: r) = esc c ++ escL r := by simp [escL]
    rw [e]
    rcases h c (List.mem_cons_self ..) with rfl | rfl | hs
    · show segsOf (42 :: escL r) = _
      simp only [segsOf, if_true, ih]
      by_cases hs : (segsOf r).1 = [] ∧ (segsOf r).2 ≠ []
      · have h2 : expL (segsOf r).1 = [] ∧ (segsOf r).2.map expL ≠ [] := ⟨expL_nil.mpr hs.1, fun h => hs.2 (List.map_eq_nil_iff.mp h)⟩
        rw [if_pos hs, if_pos h2]; rfl
      · have h2 : ¬ (expL (segsOf r).1 = [] ∧ (segsOf r).2.map expL ≠ []) := fun q => hs ⟨expL_nil.mp q.1, fun h => q.2 (by rw [h]; rfl)⟩
        rw [if_neg hs, if_neg h2]; rfl
    · show segsOf (63 :: escL r) = _
      rw [segs_sign _ (by decide), segs_sign _ (by decide), ih]; rfl
    · have hc : c ≠ 42 ∧ c ≠ 63 := by unfold Sgn at hs; omega
      rw [segs_lits _ _ (esc_plain hs), segs_sign _ hc.1, ih]
      have : itemOf c = some c := by simp [itemOf, hc.2]
      rw [this]
      simp [expL, expI]
/-- what a pattern's runs hold stands in it -/
theorem segs_mem : ∀ (pat : List Nat) (c : Nat), (some c ∈ (segsOf pat).1 ∨ ∃ m ∈ (segsOf pat).2, some c ∈ m) → c ∈ pat ∧ c ≠ 42 ∧ c ≠ 63
  | [], c, h => by simp [segsOf] at h
  | d :: r, c, h => by
    have ih := segs_mem r c
    by_cases hd : d = 42
    · subst hd
      by_cases hs : (segsOf r).1 = [] ∧ (segsOf r).2 ≠ []
      · have e : segsOf (42 :: r) = ([], (segsOf r).2) := by simp [segsOf, hs]
        rw [e] at h
        rcases h with h | h
        · cases h
        · have := ih (.inr h); exact ⟨List.mem_cons_of_mem _ this.1, this.2⟩
      · have e : segsOf (42 :: r) = ([], (segsOf r).1 :: (segsOf r).2) := by simp only [segsOf, if_true, if_neg hs]
        rw [e] at h
        rcases h with h | ⟨m, hm, h⟩
        · cases h
        · have : c ∈ r ∧ c ≠ 42 ∧ c ≠ 63 := by
            rcases List.mem_cons.mp hm with rfl | hm
            · exact ih (.inl h)
            · exact ih (.inr ⟨m, hm, h⟩)
          exact ⟨List.mem_cons_of_mem _ this.1, this.2⟩
    · rw [segs_sign _ hd] at h
      rcases h with h | h
      · rcases List.mem_cons.mp h with h | h
        · unfold itemOf at h
          split at h
          · cases h
          · rename_i h63
            cases h; exact ⟨List.mem_cons_self .., hd, h63⟩
        · have := ih (.inl h); exact ⟨List.mem_cons_of_mem _ this.1, this.2⟩
      · have := ih (.inr h); exact ⟨List.mem_cons_of_mem _ this.1, this.2⟩
theorem segs_some : ∀ pat : List Nat, 42 ∈ pat → (segsOf pat).2 ≠ []
  | [], h => by cases h
  | d :: r, h => by
    by_cases hd : d = 42
    · subst hd
      by_cases hs : (segsOf r).1 = [] ∧ (segsOf r).2 ≠ []
      · have e : segsOf (42 :: r) = ([], (segsOf r).2) := by simp [segsOf, hs]
        rw [e]; exact hs.2
      · have e : segsOf (42 :: r) = ([], (segsOf r).1 :: (segsOf r).2) := by simp only [segsOf, if_true, if_neg hs]
        rw [e]; simp
    · rw [segs_sign _ hd]
      refine segs_some r ?_
      rcases List.mem_cons.mp h with h | h
      · exact absurd h.symm hd
      · exact h
/-- the sizes of the runs -/
theorem segs_len : ∀ pat : List Nat, (segsOf pat).1.length + ((segsOf pat).2.map fun m => m.length + 1).sum ≤ pat.length
  | [] => by simp [segsOf]
  | d :: r => by
    have ih := segs_len r
    by_cases hd : d = 42
    · subst hd
      by_cases hs : (segsOf r).1 = [] ∧ (segsOf r).2 ≠ []
      · have e : segsOf (42 :: r) = ([], (segsOf r).2) := by simp [segsOf, hs]
        rw [e]; simp only [List.length_nil, List.length_cons] at ih ⊢; omega
      · have e : segsOf (42 :: r) = ([], (segsOf r).1 :: (segsOf r).2) := by simp only [segsOf, if_true, if_neg hs]
        rw [e]; simp only [List.length_nil, List.length_cons, List.map_cons, List.sum_cons] at ih ⊢; omega
    · rw [segs_sign _ hd]; simp only [List.length_cons] at ih ⊢; omega
theorem sum_mem {l : List (List Item)} {m : List Item} (h : m ∈ l) : m.length + 1 ≤ (l.map fun m => m.length + 1).sum := by
  induction l with
  | nil => cases h
  | cons a r ih =>
    rw [List.map_cons, List.sum_cons]
    rcases List.mem_cons.mp h with rfl | h
    · omega
    · have := ih h; omega
theorem sum_len (l : List (List Item)) : l.length ≤ (l.map fun m => m.length + 1).sum := by
  induction l with
  | nil => simp
  | cons a r ih => rw [List.map_cons, List.sum_cons, List.length_cons]; omega
theorem flat_len (mk : List Nat) (h : mk.length ≤ 40) : ∀ mids : List (List Item), (mids.flatMap fun m => sepL ++ (encE mk m ++ [41])).length ≤ 40 * (mids.map fun m => m.length + 1).sum
  | [] => by simp
  | m :: r => by
    have ih := flat_len mk h r
    have h1 := encE_len mk h m
    have h6 : sepL.length = 6 := rfl
    rw [List.flatMap_cons, List.map_cons, List.sum_cons, List.length_append, List.length_append, List.length_append]
    simp only [List.length_cons, List.length_nil]
    omega
section
variable (mk pat : List Nat) (mids : List (List Item)) (last : List Item) (h : (segsOf pat).2 = mids ++ [last])
include h in
theorem segs_bd : (segsOf pat).1.length ≤ pat.length ∧ last.length ≤ pat.length ∧ mids.length ≤ pat.length ∧ ∀ m ∈ mids, m.length ≤ pat.length := by
  have hl := segs_len pat
  rw [h] at hl
  have h1 := sum_len (mids ++ [last])
  rw [List.length_append] at h1
  simp only [List.length_cons, List.length_nil] at h1
  refine ⟨by omega, ?_, by omega, fun m hm => ?_⟩
  · have := sum_mem (show last ∈ mids ++ [last] by simp); omega
  · have := sum_mem (show m ∈ mids ++ [last] by simp [hm]); omega
include h in
theorem text_len (hmk : mk.length ≤ 40) : (textOf mk pat).length ≤ 40 * pat.length + 60 := by
  rw [text_eq mk pat _ last mids rfl h]
  unfold insideL
  have hl := segs_len pat
  rw [h, List.map_append, List.sum_append] at hl
  have h1 := encE_len mk hmk (segsOf pat).1
  have h2 := encE_len mk hmk last
  have h3 := flat_len mk hmk mids
  simp only [List.length_append, List.length_cons, List.length_nil, List.map_cons, List.map_nil, List.sum_cons, List.sum_nil] at hl ⊢
  omega
include h in
theorem mids_ne : ∀ m ∈ mids, m ≠ [] := by
  have hg := (segs_good [46] pat).2
  rw [h] at hg
  clear h
  induction mids with
  | nil => intro m hm; cases hm
  | cons a r ih =>
    have e : ((a :: r) ++ [last]).map (fun m => m.map (itemE [46])) = a.map (itemE [46]) :: (r ++ [last]).map fun m => m.map (itemE [46]) := rfl
    rw [e] at hg
    have h2 : a.map (itemE [46]) ≠ [] ∧ GoodS ((r ++ [last]).map fun m => m.map (itemE [46])) := by
      cases hr : (r ++ [last]).map (fun m => m.map (itemE [46])) with
      | nil => simp at hr
      | cons x y => rw [hr] at hg; exact hg
    intro m hm
    rcases List.mem_cons.mp hm with rfl | hm
    · intro q; exact h2.1 (by rw [q]; rfl)
    · exact ih h2.2 m hm
end
/-- what a pattern's text takes -/
def takesT (mk nm pat : List Nat) : Bool := takesG (tx mk) nm (segsOf pat).1 (segsOf pat).2.dropLast ((segsOf pat).2.getLastD [])
theorem segs_last {pat : List Nat} (h : 42 ∈ pat) : (segsOf pat).2 = (segsOf pat).2.dropLast ++ [(segsOf pat).2.getLastD []] := by
  have hne := segs_some pat h
  cases hs : (segsOf pat).2 with
  | nil => exact absurd hs hne
  | cons a r =>
    have e : (a :: r).getLastD [] = (a :: r).getLast (by simp) := by
      simp [List.getLastD_eq_getLast?, List.getLast?_eq_some_getLast]
    rw [e, List.dropLast_concat_getLast]
theorem esc_star {pat : List Nat} (h : 42 ∈ pat) : 42 ∈ escL pat := List.mem_flatMap.mpr ⟨42, h, by decide⟩
theorem bare_takes (nm pat : List Nat) (hs : 42 ∈ pat) : takesT [46] nm pat = meansF nm pat [0] := bare_law nm pat _ _ (segs_last hs)
theorem esc_takes (nm pat : List Nat) (hs : 42 ∈ pat) (hp : PatOk pat) (hn : NmOk nm) : takesT markL (escL nm) (escL pat) = meansF nm pat [0] := by
  rw [← bare_takes nm pat hs]
  unfold takesT
  rw [segs_esc pat hp]
  have hl := segs_last hs
  have hne := mids_ne pat _ _ hl
  have hmem := segs_mem pat
  have hit : ∀ c, c ∈ pat ∧ c ≠ 42 ∧ c ≠ 63 → Sgn c := by
    rintro c ⟨h1, h2, h3⟩
    rcases hp c h1 with h | h | h
    · exact absurd h h2
    · exact absurd h h3
    · exact h
  generalize (segsOf pat).2.dropLast = M at hl hne ⊢
  generalize (segsOf pat).2.getLastD [] = la at hl hne ⊢
  simp only [hl, List.map_append, List.map_cons, List.map_nil, List.dropLast_concat, List.getLastD_concat]
  rw [hl] at hmem
  exact takes_esc nm hn _ _ _ (fun c hc => hit c (hmem c (.inl hc))) (fun c hc => hit c (hmem c (.inr ⟨la, by simp, hc⟩))) (fun m hm => ⟨hne m hm, fun c hc => hit c (hmem c (.inr ⟨m, by simp [hm], hc⟩))⟩)
end Mine
end
theorem Mine.quietC9 : True := by
  w_top off
  trivial
section -- C9
namespace Mine
open PySem.Builtin PySem.Builtin.Str
def escF (d : Str) : Str := Txt.replace (Txt.replace (Txt.replace d (Str.ofString "&") (Str.ofString "&amp;")) (Str.ofString ">") (Str.ofString "&gt;")) (Str.ofString "<") (Str.ofString "&lt;")
section
variable {prog : Program} {w : World} {A : Around} {E : Value → Shared → Prop} {s : Shared} {d : Addr} {f : Int → Option Value}
theorem tl_text {c : Nat} {t : Str} {u : Tok} {Q : Mapped → Shared → Prop} (hm : s.heap.MapOf (intKind prog w) d f) (hv : f (c : Int) = some (.str t u)) (h : ∀ tk, Q (.text t) { s with toks := tk }) :
    wpAny (model prog w) A (tableLookup (.ref d) c) Q E s := by
  unfold tableLookup
  refine wpAny_bind (wpAny_attempt (wpAny_bind (wpAny_mkInt ?_)))
  refine wpAny_getItem_of (knd := intKind prog w) (intKind_is _ _ _ _) hm hv ?_
  (try dsimp only)
  refine wpAny_bind (wpAny_of_eq (a := none) rfl ?_)
  (try dsimp only)
  refine wpAny_bind (wpAny_of_eq (a := some t) rfl ?_)
  exact wpAny_pure (h _)
theorem tl_keep {c : Nat} {Q : Mapped → Shared → Prop} (hh : A.handled = none) (hd : (d == sysModules) = false) (hm : s.heap.MapOf (intKind prog w) d f) (hv : f (c : Int) = none)
    (h : ∀ h' e tk, Heap.NewExc s.heap h' e "KeyError" → Q .keep { s with heap := h', toks := tk }) :
    wpAny (model prog w) A (tableLookup (.ref d) c) Q E s := by
  unfold tableLookup
  refine wpAny_bind (wpAny_attempt (wpAny_bind (wpAny_mkInt ?_)))
  refine wpAny_getItem_missing_of (knd := intKind prog w) (intKind_is _ _ _ _) hd hh hm hv ?_
  intro h' e hx
  (try dsimp only)
  obtain ⟨ob, t, ho, hc, _⟩ := hx.there
  refine wpAny_bind (wpAny_isInstance (T := "KeyError") (b := true) ⟨ob, ho, hc⟩ (by rw [isSubtype_type]; kernel_rfl) ?_)
  simp only [if_true]
  exact wpAny_bind (wpAny_rule (wpAny_pure (h h' e _ hx)))
theorem str_translate {c : Nat} {t0 : Tok} {Q : Value → Shared → Prop} (hh : A.handled = none) (hd : (d == sysModules) = false) (hc : c < 128) (hm : s.heap.MapOf (intKind prog w) d f)
    (hv : f (c : Int) = none ∨ ∃ t u, f (c : Int) = some (.str t u) ∧ t.length = 2 ∧ t = tx (litE c)) (hl : f (c : Int) = none → litE c = [c])
    (h : ∀ h' tk tk', (∀ b o, s.heap.get? b = some o → h'.get? b = some o) → Q (.str (tx (litE c)) tk') { s with heap := h', toks := tk }) :
    wpAny (model prog w) A (call (.builtin "str.translate") [.str (tx [c]) t0, .ref d]) Q E s := by
  refine wpAny_call_entry F.slot_str_translate (typeIs_str _ _ _) F.entry_str_translate ?_ (F.args_str_translate_2 _ _)
  unfold Builtin.«str.translate»
  refine wpAny_bind (wpAny_of_eq (a := (.str (tx [c]) t0, tx [c], .ref d)) rfl ?_)
  have hne : ((tx [c]).length == 0) = false := by rw [tx_len]; rfl
  have hfast : ((tx [c]).cps.all fun x => decide (x < 128)) = true := by simp [hc]
  simp only [hne, hfast, Bool.false_eq_true, if_false, List.forIn_toArray, List.forIn_cons, List.forIn_nil]
  have hshort : tooLong 0 = false := by decide
  refine wpAny_bind (wpAny_bind ?_)
  simp only [hshort, Bool.false_eq_true, if_false, if_true, List.lookup_nil]
  rcases hv with hv | ⟨t, u, hv, ht2, htl⟩
  · refine wpAny_bind (tl_keep hh hd hm hv ?_)
    intro h' e tk hx
    (try dsimp only)
    refine wpAny_bind (wpAny_pure ?_)
    (try dsimp only)
    refine wpAny_pure ?_
    (try dsimp only)
    refine wpAny_pure ?_
    have h1 : tooLong 1 = false := by decide
    simp only [Nat.zero_add, h1, Bool.false_eq_true, if_false]
    unfold retStr
    refine wpAny_bind (wpAny_mkStr ?_ (by rw [sizeLine_eq]; simp [Str.length]))
    refine wpAny_pure ⟨_, rfl, ?_⟩
    have e1 : (({ cps := List.foldl (fun acc (p : Str) => acc ++ p.cps) #[] [({ cps := #[c] } : Str)].reverse } : Str)) = tx (litE c) := by rw [hl hv]; rfl
    rw [e1]
    exact h h' _ _ hx.keeps
  · refine wpAny_bind (tl_text hm hv ?_)
    intro tk
    have e2 : (t.length == 1) = false := by rw [ht2]; rfl
    simp only [e2, Bool.false_and, Bool.false_eq_true, if_false]
    refine wpAny_bind (wpAny_pure ?_)
    (try dsimp only)
    refine wpAny_bind (wpAny_rule ?_)
    (try dsimp only)
    refine wpAny_bind (tl_text hm hv ?_)
    intro tk2
    (try dsimp only)
    refine wpAny_pure ?_
    (try dsimp only)
    refine wpAny_pure ?_
    have h1 : tooLong 2 = false := by decide
    simp only [Nat.zero_add, ht2, h1, Bool.false_eq_true, if_false]
    unfold retStr
    refine wpAny_bind (wpAny_mkStr ?_ (by rw [sizeLine_eq]; simp only [List.reverse_cons, List.reverse_nil, List.nil_append, List.foldl_cons, List.foldl_nil, Str.length, Array.size_append]; have : t.cps.size = 2 := ht2; simp [this]))
    refine wpAny_pure ⟨_, rfl, ?_⟩
    have e1 : (({ cps := List.foldl (fun acc (p : Str) => acc ++ p.cps) #[] [t].reverse } : Str)) = tx (litE c) := by rw [← htl]; simp
    rw [e1]
    exact h s.heap _ _ (fun b o e => e)
/-- the signs that are met -/
def okC (c : Nat) : Prop := c = 38 ∨ c = 46 ∨ c = 60 ∨ c = 62 ∨ c = 98 ∨ c = 34 ∨ c = 97 ∨ c = 109 ∨ c = 112 ∨ c = 59 ∨ c = 108 ∨ c = 116 ∨ c = 103
theorem escMap {K : Frag} {es : Array DictEntry} {n : Nat} {h : Heap} (X : K.In h) (hl : K.lookup 61 = some ⟨.type "dict", none, .dict es n, #[]⟩) (hk : ∀ e ∈ es.toList, ∃ k t, e.key = .int k t ∧ e.hash = hashInt k) :
    h.MapOf (intKind prog w) 61 (fun k => findBy (intKind prog w).is es k) :=
  ⟨_, es, n, X _ _ hl, ⟨rfl, rfl, rfl⟩, rfl, fun e he => by
    obtain ⟨k, t, e1, e2⟩ := hk e (Array.mem_toList_iff.mpr he)
    exact ⟨k, by rw [e1]; exact intKind_is _ _ _ _, e2⟩, fun _ => rfl⟩
end
theorem escDict_of {prog : Program} {w : World} {K : Frag} {es : Array DictEntry} {n : Nat} (hl : K.lookup 61 = some ⟨.type "dict", none, .dict es n, #[]⟩) (hk : ∀ e ∈ es.toList, ∃ k t, e.key = .int k t ∧ e.hash = hashInt k)
    (hv : ∀ c, okC c → (findBy (intKind prog w).is es (c : Int) = none ∧ litE c = [c]) ∨ ∃ u, findBy (intKind prog w).is es (c : Int) = some (.str (tx (litE c)) u) ∧ (tx (litE c)).length = 2) :
    ∃ es n, K.lookup 61 = some ⟨.type "dict", none, .dict es n, #[]⟩ ∧ (∀ e ∈ es.toList, ∃ k t, e.key = .int k t ∧ e.hash = hashInt k) ∧
    ∀ c, okC c → (findBy (intKind prog w).is es (c : Int) = none ∧ litE c = [c]) ∨ ∃ u, findBy (intKind prog w).is es (c : Int) = some (.str (tx (litE c)) u) ∧ (tx (litE c)).length = 2 := ⟨es, n, hl, hk, hv⟩
set_option maxHeartbeats 8000000 in
theorem escDict (prog : Program) (w : World) : ∃ es n, (hd.heap_39 w.params).lookup 61 = some ⟨.type "dict", none, .dict es n, #[]⟩ ∧ (∀ e ∈ es.toList, ∃ k t, e.key = .int k t ∧ e.hash = hashInt k) ∧
    ∀ c, okC c → (findBy (intKind prog w).is es (c : Int) = none ∧ litE c = [c]) ∨ ∃ u, findBy (intKind prog w).is es (c : Int) = some (.str (tx (litE c)) u) ∧ (tx (litE c)).length = 2 := by
  refine fillT ?_
  k_fill
  intro _
  refine' escDict_of ?l ?k ?v
  case l => k_is
  case k =>
    repeat (first | exact List.forall_mem_nil _ | refine List.forall_mem_cons.mpr ⟨⟨_, _, rfl, by decide +kernel⟩, ?_⟩)
  case v =>
    intro c hc
    unfold okC at hc
    rcases hc with rfl | rfl | rfl | rfl | rfl | rfl | rfl | rfl | rfl | rfl | rfl | rfl | rfl
    · exact .inr ⟨_, rfl, rfl⟩
    · exact .inr ⟨_, rfl, rfl⟩
    all_goals exact .inl ⟨rfl, rfl⟩
set_option maxHeartbeats 8000000 in
theorem escre_tells (prog : Program) (w : World) (p : Program) (loose : List Str) (mean : ExcName → Option Value) (mg mb : Str → Option Value) (c : Nat) (t0 : Tok) (hc : okC c) :
    Tells prog w p loose mean mg mb 71 [.str (tx [c]) t0] 1 (fun t => .str (tx (litE c)) t) := by
  obtain ⟨es, n, hl, hkeys, hv⟩ := escDict prog w
  refine fillT ?_
  k_fill
  intro _
  unfold Tells
  intro dp un gd cn cs a ccd cl outer A₀ base h₀ L m news s Q E B F X N T hk hd hu hret
  refine wpAny_call ?_
  k_dflt cell_enter
  (rename Fr _ _ _ (fun y => List.lookup y _) => lF')
  (have lF2 := fr_clean [(Str.ofString "pattern", Value.str (tx [c]) t0)] (by with_unfolding_all rfl) lF')
  clear lF'
  k_steps
  dsimp only
  refine GM.of (.str (tx [c]) t0) (typeIs_str _ _ _) PySem.F.slot_str_translate PySem.F.type_str_translate GM.noRef ?_
  k_steps
  (rename Fr _ _ _ _ => lF'); (rename News _ _ _ _ => lN')
  (rename Frag.In _ _ => hX)
  refine str_translate (by rfl) (by decide) (by unfold okC at hc; omega) (escMap (hX.keeps lF'.keep) hl hkeys) ?_ ?_ ?_
  · rcases hv c hc with h | ⟨u, h1, h2⟩
    · exact .inl h.1
    · exact .inr ⟨_, u, h1, h2, rfl⟩
  · intro h0
    rcases hv c hc with h | ⟨u, h1, h2⟩
    · exact h.2
    · have e9 : findBy (intKind prog w).is es (c : Int) = none := h0
      rw [h1] at e9; cases e9
  · intro h9 tk9 t9 hkeep
    have F9 := lF'.grownK hkeep
    have N9 := lN'.grown hkeep
    clear lF' lN'
    dsimp only
    k_steps
    exact hret _ _ _ (by assumption) (by assumption)
end Mine
end
theorem Mine.quietC11 : True := by
  w_top off
  trivial
section -- C11
set_option maxRecDepth 100000
open Sem (wp)
namespace Mine
theorem slot_md_get : Slot "method_descriptor" "__get__" "method_descriptor.__get__" :=
  .of (owner := "method_descriptor") (n := "__get__") (by rw [typeLookup_type, builtinLookup_eq_fast]; kernel_rfl) (by decide +kernel) (by decide +kernel) (by decide +kernel)
    (by first | exact .inl (by decide +kernel) | exact .inr (by decide +kernel)) (by rw [isSubtype_type]; kernel_rfl)
theorem md_set : typeLookup (.type "method_descriptor") "__set__" = pure none := by rw [typeLookup_type, builtinLookup_eq_fast]; kernel_rfl
theorem md_delete : typeLookup (.type "method_descriptor") "__delete__" = pure none := by rw [typeLookup_type, builtinLookup_eq_fast]; kernel_rfl
theorem entry_md_get : entryFor table "method_descriptor.__get__" = some Builtin.«method_descriptor.__get__» := entryFor_of_tree (by kernel_rfl)
theorem args_md_get (a b c : Value) : argsOk "method_descriptor.__get__" ⟨[a, b, c], []⟩ := by unfold argsOk; kernel_rfl
theorem typeOf_list_append : typeOf (.builtin "list.append") = pure (.type "method_descriptor") := by kernel_rfl
theorem told_append : Manifest.toldItsClass.contains "list.append" = false := by decide +kernel
section
variable {prog : Program} {w : World} {A : Around} {E : Value → Shared → Prop} {h : Heap} {g : Array GenState} {d : Drawn} {t : Nat} {os : OsState} {a : Addr} {o : Obj}
abbrev boundObj (l : Addr) : Obj := { cls := .type "builtin_function_or_method", data := .fields #[.builtin "list.append", .ref l] }
theorem md_get {R : Result → Shared → Prop} (hx : h.get? a = some o) (hc : o.cls = .type "list") (hq : R (.ok (.ret (.ref h.objs.size))) ⟨h.push (boundObj a), g, d, t, os⟩) :
    codeAny (model prog w) A (.call (.builtin "method_descriptor.__get__") ⟨[.builtin "list.append", .ref a, .type "list"], []⟩) R ⟨h, g, d, t, os⟩ := by
  have hT : (⟨h, g, d, t, os⟩ : Shared).TypeIs (.ref a) "list" := ⟨_, hx, hc⟩
  have hT5 : (⟨h, g, d, t, os⟩ : Shared).TypeIs (.builtin "list.append") "method_descriptor" := typeOf_list_append
  have f1 := told_append
  refine codeAny_call_builtin slot_md_get.plain entry_md_get (slot_md_get.check _ _ _ _ _ _ _ _ hT5 (args_md_get _ _ _) ?_)
  unfold Builtin.«method_descriptor.__get__»
  refine wpAny_bind (wpAny_of_eq (a := (.builtin "list.append", some (.ref a), some (.type "list"))) (by rfl) ?_)
  dsimp only
  rw [f1]
  simp only [Bool.false_eq_true, if_false]
  refine wpAny_bind ?_
  refine wpAny_bind (wpAny_of_eq (a := ((Str.ofString "append" : Str), Value.type "list")) (by with_unfolding_all rfl) ?_)
  dsimp only
  refine wpAny_bind (wpAny_isInstance (b := true) hT (by rw [isSubtype_type]; kernel_rfl) ?_)
  simp only [Bool.not_true, Bool.false_eq_true, if_false]
  refine wpAny_pure ?_
  refine wpAny_bind ?_
  unfold newFields
  refine wpAny_newObj_type ?_ (by show (2 : Nat) ≤ _; decide)
  exact wpAny_pure hq
theorem append_entry {tk : Tok} {it n sl} {Q : Fin → Shared → Prop} (hx : h.get? a = some { cls := .type "list", dict := none, data := .seq it n, slots := sl }) (hq : Q (.done (.ret (.ref h.objs.size))) ⟨h.push (boundObj a), g, d, t, os⟩) :
    wpAny (model prog w) A (Builtin.«object.__getattribute__» ⟨[.ref a, .str "append" tk], []⟩) Q E ⟨h, g, d, t, os⟩ := by
  have hT : (⟨h, g, d, t, os⟩ : Shared).TypeIs (.ref a) "list" := ⟨_, hx, rfl⟩
  have hT5 : (⟨h, g, d, t, os⟩ : Shared).TypeIs (.builtin "list.append") "method_descriptor" := typeOf_list_append
  have f4 := slot_list_append.lookup
  have f5 := typeOf_list_append
  have f6 := slot_md_get.lookup
  have f7 := md_set
  have f8 := md_delete
  unfold Builtin.«object.__getattribute__»
  repeat (any_goals (first | assumption | (with_reducible refine md_get hx rfl ?_) | wp_step))
theorem append_call {tk : Tok} {it n sl} {R : Result → Shared → Prop} (hx : h.get? a = some { cls := .type "list", dict := none, data := .seq it n, slots := sl }) (hq : R (.ok (.ret (.ref h.objs.size))) ⟨h.push (boundObj a), g, d, t, os⟩) :
    codeAny (model prog w) A (.call (.builtin "list.__getattribute__") ⟨[.ref a, .str "append" tk], []⟩) R ⟨h, g, d, t, os⟩ :=
  codeAny_call_builtin F.slot_list_getattribute.plain F.entry_list_ga (F.slot_list_getattribute.check _ _ _ _ _ _ _ _ (show (⟨h, g, d, t, os⟩ : Shared).TypeIs (.ref a) "list" from ⟨_, hx, rfl⟩) (F.args_list_getattribute_2 _ _) (append_entry hx hq))
theorem append_attr {it n sl} {Q : Value → Shared → Prop} (hx : h.get? a = some { cls := .type "list", dict := none, data := .seq it n, slots := sl }) (hq : Q (.ref h.objs.size) ⟨h.push (boundObj a), g, d, t + 1, os⟩) :
    wpAny (model prog w) A (getAttr (.ref a) "append" true) Q E ⟨h, g, d, t, os⟩ := by
  have hT : ∀ tk', (⟨h, g, d, tk', os⟩ : Shared).TypeIs (.ref a) "list" := fun _ => ⟨_, hx, rfl⟩
  have f3 := F.slot_list_getattribute.lookup
  have f4 := F.slot_list_getattribute.bind (.ref a)
  unfold getAttr getAttrBy
  repeat (any_goals (first | assumption | exact hT _ | wp_step))
  refine append_call hx ?_
  repeat (any_goals (first | assumption | exact hT _ | wp_step))
theorem sig_append : Manifest.signature? "list.append" = some ⟨.oneArg, "list.append", "append", .self, [⟨"object", .posOnly, true⟩]⟩ := by kernel_rfl
theorem kind_append : builtinKind "list.append" = some .method := by decide +kernel
theorem lastOf_append : Bind.lastOf "list.append" = "append" := by decide +kernel
theorem lastOf_list : Bind.lastOf "list" = "list" := by decide +kernel
theorem varargs_append : Manifest.varargsMethods.contains "list.append" = false := by decide +kernel
theorem checks_append (x y : Value) : Bind.checkArgs "list.append" ⟨.oneArg, "list.append", "append", .self, [⟨"object", .posOnly, true⟩]⟩ ⟨[x, y], []⟩ = pure () := by kernel_rfl
theorem check_bound {s : Shared} {x : Value} {it n} {Q : Unit → Shared → Prop} (hx : s.heap.get? a = some { cls := .type "list", data := .seq it n }) (hq : Q () s) : wpAny (model prog w) A (checkBoundCall "list.append" ⟨[.ref a, x], []⟩) Q E s := by
  have hT : s.TypeIs (.ref a) "list" := ⟨_, hx, rfl⟩
  unfold checkBoundCall
  rw [sig_append, kind_append]
  dsimp only
  rw [if_neg (by decide)]
  refine wpAny_bind (wpAny_isInstance (b := false) hT (by rw [isSubtype_type]; kernel_rfl) ?_)
  rw [varargs_append]
  simp only [Bool.or_self, Bool.false_eq_true, if_false]
  refine wpAny_bind ?_
  repeat (first | assumption | (with_reducible refine wpAny_of_eq (checks_append _ _) hq) | wp_step)
theorem quiet_append {args : Args} : (Code.builtin "list.append" args).quiet = true := plainId_quiet slot_list_append.plain args
theorem bound_call {b : Addr} {x : Value} {it n} {s : Shared} {Q : Value → Shared → Prop} (hb : s.heap.get? b = some (boundObj a)) (hx : s.heap.get? a = some { cls := .type "list", data := .seq it n })
    (h : ∀ h', Heap.SameBut a s.heap h' → h'.get? a = some { cls := .type "list", data := .seq (it.push x) (n + 1) } → Q .none { s with heap := h' })
    (hsz : it.size ≤ sizeLine := by size_fits) : wpAny (model prog w) A (call (.ref b) [x]) Q E s := by
  have hT : s.TypeIs (.ref a) "list" := ⟨_, hx, rfl⟩
  refine wpAny_call (codeAny_of_tree ?_)
  show wpAny _ A.in1 (callAny (.ref b) ⟨[x], []⟩) _ _ s
  simp only [callAny]
  refine wpAny_bind (wpAny_load hb ?_)
  simp only [boundObj]
  rw [if_pos (by decide)]
  refine wpAny_bind (check_bound hx ?_)
  refine wpAny_bind (wpAny_pure (wpAny_pure ?_))
  refine ⟨quiet_append, codeAny_builtin entry_list_append ?_⟩
  show wpAny _ _ (updateSeq a (·.push x) >>= fun _ => ret .none) _ _ s
  refine wpAny_bind ?_
  refine wpAny_updateSeq hx rfl (wpAny_pure (h _ (Heap.SameBut.update ..) ?_))
  rw [Heap.get?_update_self _ hx (by rw [PyProof.Rows.mapSeq_push]; rfl), PyProof.Rows.mapSeq_push]
end
end Mine
namespace Mine
open PySem PySem.W PySem.Calls PyProof.Rows PySem.Spec
section
variable {prog : Program} {w : World} {M : Model} {A : Around} {E : Value → Shared → Prop} {s : Shared} {h₀ : Heap} {L D b : Addr} {m : Str → Option Value} {news news' : List (Addr × Obj)}
theorem append_attr_K {its : Array Value} {n : Nat} {Q : Value → Shared → Prop} (F : Fr h₀ L s.heap m) (N : News h₀ L s.heap news) (hm : (D, listOf its n) ∈ news)
    (h : ∀ q h', Fr h₀ L h' m → News h₀ L h' ((q, boundObj D) :: news) → (∀ p ∈ news, p.1 < q) → Q (.ref q) { s with heap := h', toks := s.toks + 1 }) : wpAny (model prog w) A (getAttr (.ref D) "append" true) Q E s :=
  append_attr (N _ hm).1 (h _ _ (F.push _) (N.push F _) fun p hp => Heap.lt_size (N p hp).1)
def StandsB (x a : Addr) (h : Heap) : Prop := h.get? x = some (boundObj a)
theorem standsB_of {x a : Addr} {h : Heap} (N : News h₀ L h news) (hm : (x, boundObj a) ∈ news) : StandsB x a h := N.get hm
theorem callWith_B {pos : Pos} {u a : Addr} {first : List Value} {env : Env} {e : Expr} {rest : List Expr} {Q : Value → Shared → Prop} (_N : News h₀ L s.heap news) (_hm : (u, boundObj a) ∈ news)
    (h : wpAny M A (spliced (backTo pos (starEach (e :: rest) env))) (fun vs s₁ => StandsB u a s₁.heap ∧ wpAny M A (call (.ref u) (first ++ vs)) Q E s₁) E s)
    (he : starEach (e :: rest) env = (false, eval e env) :: starEach rest env := by rfl) (hplain : (backTo pos (starEach rest env)).any (·.1) = false := by rfl) :
    wpAny M A (callWith pos (.ref u) first (backTo pos (starEach (e :: rest) env)) []) Q E s := by
  rw [he] at h ⊢
  exact callWith_of (by show ((false || (backTo pos (starEach rest env)).any (·.1)) || false) = false; rw [hplain]; rfl) (fun h X => ⟨.machine, .inr (.inl rfl), (Looks.ld (part := none) X).andThen .now⟩) (evalArgs_plain h)
theorem append_bound_K {its : Array Value} {n : Nat} {x : Value} {Q : Value → Shared → Prop} (F : Fr h₀ L s.heap m) (N : News h₀ L s.heap news) (hb : (b, boundObj D) ∈ news) (U : Upd D (listOf its n) (listOf (its.push x) (n + 1)) news news')
    (h : ∀ h', Fr h₀ L h' m → News h₀ L h' news' → Q .none { s with heap := h' }) (hsz : its.size ≤ sizeLine := by size_fits) : wpAny (model prog w) A (call (.ref b) [x]) Q E s := by
  obtain ⟨pre, post, rfl, rfl, a, b⟩ := U.split
  have z := N (D, listOf its n) (List.mem_append.mpr (.inr (.head _)))
  exact bound_call (hsz := hsz) (N _ hb).1 z.1 fun h' hs ho' => h h' (F.change hs z.2.1 z.2.2) (news_set N a b hs ho')
end
end Mine
end
section
local macro_rules | `(tactic| walk_at "getAttr ref") => `(tactic| (k_here; (with_reducible show wpAny _ _ (getAttr (Value.ref _) _ true) _ _ _); k_dflt (refine' Mine.append_attr_K ?k1 ?k2 ?k3 ?_; (case k1 => k_asm); (case k2 => k_asm); (case k3 => k_mem); k_whole); intro q' h' F' N' l1; (try k_lt l1); (try k_sweep)))
local macro_rules | `(tactic| walk_at "callWith ref") => `(tactic| (k_here; (with_reducible show wpAny _ _ (callWith _ (Value.ref _) _ (backTo _ (starEach (_ :: _) _)) []) _ _ _); k_dflt (refine' Mine.callWith_B ?kfbN ?kfbM ?_; (case kfbN => k_asm); (case kfbM => k_mem); k_whole)))
local macro_rules | `(tactic| walk_at "And") => `(tactic| ((with_reducible show Mine.StandsB _ _ _ ∧ _); k_dflt (refine ⟨Mine.standsB_of (by k_asm) (by k_mem), ?_⟩); (try dsimp only [List.nil_append, List.cons_append])))
local macro_rules | `(tactic| walk_at "call ref") => `(tactic| (k_here; (with_reducible show wpAny _ _ (call (Value.ref _) [_]) _ _ _); k_dflt (refine' Mine.append_bound_K ?k1 ?k2 ?k0 ?k3 ?_ ?z; (case k1 => k_asm); (case k2 => k_asm); (case k0 => k_mem); (case k3 => k_upd); (case z => size_fits); k_whole); intro h' F' N'; (try k_sweep)))
theorem Mine.quietC12 : True := by
  w_top off
  trivial
section -- C12
local macro_rules | `(tactic| walk_at "truthy ref") => `(tactic| (refine Mine.stop_of ?_))
local macro_rules | `(tactic| walk_at "subscriptTail") => `(tactic| ((with_reducible show wpAny _ _ (subscriptTail _ _ (Value.ref _) (Value.int (-1) _)) _ _ _); refine Mine.stop_of ?_))
namespace Mine
/-- a call that hands back a new list; what must lie in the ledger: need -/
def TellsL (prog : Program) (w : World) (p : Program) (loose : List Str) (mean : ExcName → Option Value) (mg mb : Str → Option Value) (need : List (Addr × Obj)) (f : Addr) (args : List Value) (d : Nat) (V : List Value → Prop) : Prop :=
  ∀ (dp un : Nat) (gd : Option (List Code)) (cn : Str) (cs : Scope) (a : Addr) (ccd : Value) (cl : List (Str × Addr)) (outer : List Env) (A₀ : Around) (base h₀ : Heap) (L : Addr) (m : Str → Option Value) (news : List (Addr × Obj)) (s : Shared) (Q E : Value → Shared → Prop),
    Below A₀ base outer h₀ → Fr h₀ L s.heap m → (hd.heap_39 w.params).In h₀ → News h₀ L s.heap news → Top p loose mean mg mb h₀ → cs.kind = .function → dp + d < recursionLimit → un + 8 * d + 64 < cLine → (∀ q ∈ need, q ∈ news) →
    (∀ l vs n h' tk', V vs → Fr h₀ L h' m → News h₀ L h' ((l, listOf vs.toArray n) :: news) → (∀ q ∈ news, q.1 < l) → Q (.ref l) { s with heap := h', toks := tk' }) →
    wpAny (model prog w) (ktrTop dp un gd cn cs L a ccd cl outer) (call (.ref f) args) Q E s
/-- what the parts' list holds: the star or a text -/
def PartIs (S : Addr) (v : Value) : Option (List Nat) → Prop
  | none => v = .ref S
  | some x => ∃ t, v = .str (tx x) t
def PartsAre (S : Addr) (vs : List Value) (ps : List (Option (List Nat))) : Prop := vs.length = ps.length ∧ ∀ (i : Nat) v, vs[i]? = some v → ∃ q, ps[i]? = some q ∧ PartIs S v q
theorem PartsAre.nil {S : Addr} : PartsAre S [] [] := ⟨rfl, fun i v h => by simp at h⟩
theorem PartsAre.snoc {S : Addr} {vs ps v q} (h : PartsAre S vs ps) (hq : PartIs S v q) : PartsAre S (vs ++ [v]) (ps ++ [q]) := by
  refine ⟨by rw [List.length_append, List.length_append, h.1]; rfl, fun i v' hv => ?_⟩
  rcases Nat.lt_or_ge i vs.length with hi | hi
  · rw [List.getElem?_append_left hi] at hv
    rw [List.getElem?_append_left (h.1 ▸ hi)]; exact h.2 i v' hv
  · rw [List.getElem?_append_right hi] at hv
    rw [List.getElem?_append_right (h.1 ▸ hi), ← h.1]
    rcases Nat.eq_zero_or_pos (i - vs.length) with e | e
    · rw [e] at hv ⊢; simp at hv; subst hv; exact ⟨q, rfl, hq⟩
    · rw [List.getElem?_eq_none (by simp; omega)] at hv; cases hv
theorem PartsAre.last {S : Addr} {vs ps} (h : PartsAre S vs ps) (hne : vs ≠ []) : ∃ v q, vs[vs.length - 1]? = some v ∧ ps.getLast? = some q ∧ PartIs S v q := by
  have hl : 0 < vs.length := List.length_pos_iff.mpr hne
  obtain ⟨q, h1, h2⟩ := h.2 (vs.length - 1) (vs[vs.length - 1]'(by omega)) (by simp)
  exact ⟨_, q, (by simp), by rw [List.getLast?_eq_getElem?, ← h.1]; exact h1, h2⟩
section
variable {prog : Program} {w : World} {M : Model} {A : Around} {E : Value → Shared → Prop} {s : Shared}
theorem partIsNot {S : Addr} {v : Value} {q : Option (List Nat)} {Q : Value → Shared → Prop} (h : PartIs S v q) (hq : Q (.bool q.isSome) s) : wpAny M A (compareOp .IsNot v (.ref S)) Q E s := by
  cases q with
  | none => cases h; exact isnot_ref_same hq
  | some x => obtain ⟨t, rfl⟩ := h; exact wpAny_isNot_other (by rfl) (by intro x; cases x) hq
theorem partIsSame {S : Addr} {v : Value} {q : Option (List Nat)} {Q : Value → Shared → Prop} (h : PartIs S v q) (hq : Q (.bool q.isNone) s) : wpAny M A (compareOp .Is v (.ref S)) Q E s := by
  cases q with
  | none =>
    cases h
    show wpAny M A (do return Value.bool (← isSame (.ref S) (.ref S))) Q E s
    exact wpAny_bind (wpAny_isSame_ref_self (wpAny_pure hq))
  | some x => obtain ⟨t, rfl⟩ := h; exact wpAny_is_other (by rfl) (by intro x; cases x) hq
theorem item_last {value slice : Expr} {l : Addr} {vs : List Value} {v : Value} {u : Tok} {Q : Value → Shared → Prop} (hl : s.heap.IsList l vs.toArray) (hne : vs ≠ []) (hv : vs[vs.length - 1]? = some v) (h : Q v s)
    (hs : subscripted slice false (.ref l) (.int (-1) u) = operate [.ref l, .int (-1) u] (getItem (.ref l) (.int (-1) u)) := by with_unfolding_all rfl) :
    wpAny (model prog w) A (subscriptTail value slice (.ref l) (.int (-1) u)) Q E s := by
  have hp : 0 < vs.length := List.length_pos_iff.mpr hne
  have e : ((-1 : Int) + (vs.toArray.size : Int)).toNat = vs.length - 1 := by simp; omega
  exact subscriptTail_builtinR hl.typeIs slot_list_getitem.lookup (wpAny_getItem_list_neg (Q := fun r s' => r = _ ∧ Q r s') hl (by decide) (by simp; omega) (by decide) (by rw [e]; simpa using hv) ⟨rfl, h⟩) hs
end
def stepT (mk : List Nat) (acc : List (Option (List Nat))) (c : Nat) : List (Option (List Nat)) :=
  if c = 42 then (if acc.getLast? = some none then acc else acc ++ [none]) else if c = 63 then acc ++ [some mk] else acc ++ [some (litE c)]
theorem stepT_skip {mk : List Nat} {acc : List (Option (List Nat))} {c : Nat} (h : c = 42) (hl : acc.getLast? = some none) : stepT mk acc c = acc := by unfold stepT; rw [if_pos h, if_pos hl]
theorem stepT_star {mk : List Nat} {acc : List (Option (List Nat))} {c : Nat} (h : c = 42) (hl : acc.getLast? ≠ some none) : stepT mk acc c = acc ++ [none] := by unfold stepT; rw [if_pos h, if_neg hl]
theorem stepT_q {mk : List Nat} {acc : List (Option (List Nat))} {c : Nat} (h : c = 63) : stepT mk acc c = acc ++ [some mk] := by unfold stepT; rw [if_neg (by omega), if_pos h]
theorem stepT_lit {mk : List Nat} {acc : List (Option (List Nat))} {c : Nat} (h : ¬ c = 42) (h2 : ¬ c = 63) : stepT mk acc c = acc ++ [some (litE c)] := by unfold stepT; rw [if_neg h, if_neg h2]
theorem fold_take {α β : Type} {f : β → α → β} {b : β} {l : List α} {i : Nat} {c : α} (h : l[i]? = some c) : (l.take (i + 1)).foldl f b = f ((l.take i).foldl f b) c := by
  have e : l.take (i + 1) = l.take i ++ [c] := by rw [List.take_add_one, h]; rfl
  rw [e, List.foldl_append]; rfl
theorem grab2 {news : List (Addr × Obj)} {q l : Addr} {G : Prop} (h : l < q ∧ AllLt q news) (k : ∀ q1 l1 : Addr, q1 = q → l1 = l → (l1 < q1 ∧ AllLt q1 news) → G) : G := k q l rfl rfl h
/-- the branch that no pattern of ours reaches, out of sight -/
theorem hide_big {M : Model} {A : Around} {E : Value → Shared → Prop} {Q : Flow → Shared → Prop} {s : Shared} {env : Env} {a b c d e f1 f2 : Stmt} {t t1 t2 t3 : Expr} {b1 b2 e3 o BIG : List Stmt} {p p1 p2 p3 : Pos}
    (h : ∀ B, wpAny M A (execs [a, b, c, .While t [d, e, .If t1 b1 [.If t2 b2 [.If t3 B e3 p3] p2] p1] o p, f1, f2] env) Q E s) : wpAny M A (execs [a, b, c, .While t [d, e, .If t1 b1 [.If t2 b2 [.If t3 BIG e3 p3] p2] p1] o p, f1, f2] env) Q E s := h BIG
set_option maxHeartbeats 8000000 in
theorem translate_tells (prog : Program) (w : World) (p : Program) (loose : List Str) (mean : ExcName → Option Value) (mg mb : Str → Option Value) (pat mk : List Nat) (S : Addr) (t0 t1 : Tok)
    (hlp : pat.length ≤ 1000) (hb : ∀ c ∈ pat, c = 42 ∨ c = 63 ∨ okC c) :
    TellsL prog w p loose mean mg mb [] 78 [.str (tx pat) t0, .ref S, .str (tx mk) t1] 2 (fun vs => PartsAre S vs (pat.foldl (stepT mk) [])) := by
  have hln : (tx pat).length ≤ 1000 := by rw [tx_len]; omega
  generalize hname : tx pat = name at hln ⊢
  refine fillT ?_
  k_fill
  intro _
  unfold TellsL
  intro dp un gd cn cs a ccd cl outer A₀ base h₀ L m news s Q E B F X N T hk hd hu hled hret
  refine wpAny_call ?_
  k_dflt cell_enter
  (rename Fr _ _ _ (fun y => List.lookup y _) => lF')
  (have lF2 := fr_clean [(Str.ofString "QUESTION_MARK", Value.str (tx mk) t1), (Str.ofString "STAR", Value.ref S), (Str.ofString "pat", Value.str name t0)] (by with_unfolding_all rfl) lF')
  clear lF'
  refine hide_big ?_
  intro BIG
  k_steps
  unfold StopHere
  (rename Fr _ _ _ _ => lF'); (rename News _ _ _ _ => lN')
  (rename _ ∧ _ ∧ AllLt _ news => l3)
  clear l3
  (rename _ ∧ AllLt _ news => l2); (rename ∀ p9 : Addr × Obj, p9 ∈ news → p9.1 < _ => l1)
  refine grab2 l2 ?_
  intro q l e1 e2 l3
  subst e1; subst e2
  have hlq : (@Ne Nat q l) := Ne.symm (Nat.ne_of_lt l2.1)
  have hqn : ∀ p ∈ news, (@Ne Nat p.1 q) := fun p9 h9 => Nat.ne_of_lt (kst_ltOf l2.2 p9 h9)
  have hln' : ∀ p ∈ news, (@Ne Nat p.1 l) := fun p9 h9 => Nat.ne_of_lt (l1 p9 h9)
  clear l3
  with_unfolding_all refine' ksw_while (σ := List Value × Nat × Nat × Tok) (fun c => (q, boundObj l) :: (l, W.listOf c.1.toArray c.2.1) :: news) (fun c => [(Str.ofString "i", Value.int (c.2.2.1 : Int) c.2.2.2)]) (fun _ => True) [Str.ofString "c"] (fun c => c.2.2.1 ≤ pat.length ∧ PartsAre S c.1 ((pat.take c.2.2.1).foldl (stepT mk) []) ∧ c.1.length ≤ c.2.2.1) (fun c => pat.length - c.2.2.1) ([], 0, 0, _) lF' ?hN trivial ?hk ?hp ?turn
  case hN => exact (cb_drop lN' (by (intro p9 h9; first | exact h9 | kst_mem | (simp only [List.mem_cons, List.mem_append]; simp [h9]))))
  case hk => kst_all
  case hp => exact ⟨Nat.zero_le _, .nil, Nat.zero_le _⟩
  case turn =>
    intro c u h tk _ hP kF kN
    obtain ⟨vs, n, i, ti⟩ := c
    dsimp only at hP kF kN ⊢
    clear lF' lN'
    obtain ⟨hi, hA, hvl⟩ := hP
    have hnl : name.length = pat.length := by rw [← hname, tx_len]
    rcases Nat.lt_or_ge i pat.length with hlt | hge
    · obtain ⟨c, hc⟩ : ∃ c, pat[i]? = some c := ⟨pat[i], by simp [hlt]⟩
      have hci : Txt.item name (i : Int) = tx [c] := by rw [← hname]; exact it_nat pat (Int.natCast_nonneg i) hc
      have e42 : Str.ofString "*" = tx [42] := by decide +kernel
      have e63 : Str.ofString "?" = tx [63] := by decide +kernel
      have e91 : Str.ofString "[" = tx [91] := by decide +kernel
      by_cases h42 : c = 42
      · have g42 : (Txt.item name (i : Int) == Str.ofString "*") = true := by rw [hci, e42, tx_beq]; simp [h42]
        k_steps
        unfold StopHere
        (rename Fr _ _ _ _ => lF'); (rename News _ _ _ _ => lN')
        have hil : Heap.IsList _ l vs.toArray := ⟨_, (lN' _ (List.mem_cons_of_mem _ (List.mem_cons_self ..))).1, rfl, _, rfl⟩
        refine wpAny_truthy_list hil (by rw [List.size_toArray]; omega) ?_
        rcases Classical.em (vs = []) with hv | hv
        · subst hv
          clear hil
          simp only [List.isEmpty_toArray, List.isEmpty_nil, Bool.not_true]
          k_steps
          (rename Fr _ _ _ _ => lF'); (rename News _ _ _ _ => lN')
          rw [List.push_toArray] at lN'
          refine ksw_end (⟨[] ++ [.ref S], n + 1, i + 1, _⟩ : List Value × Nat × Nat × Tok) lF' lN' (fun _ h => h) trivial (by kst_all) (by (intro z h2 h3; (try simp at h2); (try simp at h3); simp [h2, h3, kstB])) ⟨hlt, ?_, by show (1 : Nat) ≤ i + 1; omega⟩ (by show pat.length - (i + 1) < pat.length - i; omega)
          show PartsAre S ([] ++ [.ref S]) ((pat.take (i + 1)).foldl (stepT mk) [])
          have hz : (pat.take i).foldl (stepT mk) [] = [] := List.length_eq_zero_iff.mp hA.1.symm
          rw [fold_take hc, hz, stepT_star h42 (by simp)]
          rw [hz] at hA
          exact hA.snoc rfl
        · obtain ⟨v, qq, hv1, hv2, hv3⟩ := hA.last hv
          have hem : (!vs.toArray.isEmpty) = true := by cases vs with | nil => exact absurd rfl hv | cons a b => rfl
          rw [hem]
          clear hil
          k_steps
          unfold StopHere
          (rename Fr _ _ _ _ => lF'); (rename News _ _ _ _ => lN')
          have hil : Heap.IsList _ l vs.toArray := ⟨_, (lN' _ (List.mem_cons_of_mem _ (List.mem_cons_self ..))).1, rfl, _, rfl⟩
          refine item_last hil hv hv1 ?_
          clear hil
          k_steps
          refine partIsNot hv3 ?_
          cases qq with
          | none =>
            simp only [Option.isSome_none]
            k_steps
            (rename Fr _ _ _ _ => lF'); (rename News _ _ _ _ => lN')
            refine ksw_end (⟨vs, n, i + 1, _⟩ : List Value × Nat × Nat × Tok) lF' lN' (fun _ h => h) trivial (by kst_all) (by (intro z h2 h3; (try simp at h2); (try simp at h3); simp [h2, h3, kstB])) ⟨hlt, ?_, Nat.le_succ_of_le hvl⟩ (by show pat.length - (i + 1) < pat.length - i; omega)
            show PartsAre S vs ((pat.take (i + 1)).foldl (stepT mk) [])
            rw [fold_take hc, stepT_skip h42 hv2]
            exact hA
          | some xx =>
            simp only [Option.isSome_some]
            k_steps
            (rename Fr _ _ _ _ => lF'); (rename News _ _ _ _ => lN')
            rw [List.push_toArray] at lN'
            refine ksw_end (⟨vs ++ [.ref S], n + 1, i + 1, _⟩ : List Value × Nat × Nat × Tok) lF' lN' (fun _ h => h) trivial (by kst_all) (by (intro z h2 h3; (try simp at h2); (try simp at h3); simp [h2, h3, kstB])) ⟨hlt, ?_, by rw [List.length_append]; exact Nat.succ_le_succ hvl⟩ (by show pat.length - (i + 1) < pat.length - i; omega)
            show PartsAre S (vs ++ [.ref S]) ((pat.take (i + 1)).foldl (stepT mk) [])
            rw [fold_take hc, stepT_star h42 (by rw [hv2]; simp)]
            exact hA.snoc rfl
      · have g42 : (Txt.item name (i : Int) == Str.ofString "*") = false := by rw [hci, e42, tx_beq]; simp [h42]
        by_cases h63 : c = 63
        · have g63 : (Txt.item name (i : Int) == Str.ofString "?") = true := by rw [hci, e63, tx_beq]; simp [h63]
          k_steps
          (rename Fr _ _ _ _ => lF'); (rename News _ _ _ _ => lN')
          rw [List.push_toArray] at lN'
          refine ksw_end (⟨vs ++ [.str (tx mk) t1], n + 1, i + 1, _⟩ : List Value × Nat × Nat × Tok) lF' lN' (fun _ h => h) trivial (by kst_all) (by (intro z h2 h3; (try simp at h2); (try simp at h3); simp [h2, h3, kstB])) ⟨hlt, ?_, by rw [List.length_append]; exact Nat.succ_le_succ hvl⟩ (by show pat.length - (i + 1) < pat.length - i; omega)
          show PartsAre S (vs ++ [.str (tx mk) t1]) ((pat.take (i + 1)).foldl (stepT mk) [])
          rw [fold_take hc, stepT_q h63]
          exact hA.snoc ⟨t1, rfl⟩
        · have g63 : (Txt.item name (i : Int) == Str.ofString "?") = false := by rw [hci, e63, tx_beq]; simp [h63]
          have hok : okC c := by rcases hb c (List.mem_of_getElem? hc) with h | h | h; exact absurd h h42; exact absurd h h63; exact h
          have g91 : (Txt.item name (i : Int) == Str.ofString "[") = false := by
            rw [hci, e91, tx_beq]
            unfold okC at hok
            simp; omega
          k_steps
          rw [hci]
          refine' tells_use ?k1 ?k2 ?k3 ?k4 ?k5 ?kK (escre_tells prog w p loose mean mg mb c _ hok) ?kd ?ku ?_; (case k1 => k_asm); (case k2 => k_asm); (case k3 => k_asm); (case k4 => k_asm); (case k5 => k_asm); (case kK => first | exact rfl | assumption); (case kd => ktr_room); (case ku => ktr_units)
          intro t9 h9 tk9 F9 N9
          (try dsimp only)
          (try k_fold)
          k_steps
          (rename Fr _ _ _ _ => lF'); (rename News _ _ _ _ => lN')
          rw [List.push_toArray] at lN'
          refine ksw_end (⟨vs ++ [.str (tx (litE c)) t9], n + 1, i + 1, _⟩ : List Value × Nat × Nat × Tok) lF' lN' (fun _ h => h) trivial (by kst_all) (by (intro z h2 h3; (try simp at h2); (try simp at h3); simp [h2, h3, kstB])) ⟨hlt, ?_, by rw [List.length_append]; exact Nat.succ_le_succ hvl⟩ (by show pat.length - (i + 1) < pat.length - i; omega)
          show PartsAre S (vs ++ [.str (tx (litE c)) t9]) ((pat.take (i + 1)).foldl (stepT mk) [])
          rw [fold_take hc, stepT_lit h42 h63]
          exact hA.snoc ⟨t9, rfl⟩
    · k_steps
      · refine hret l vs n _ _ ?_ (by assumption) (cb_drop (by assumption) (by (intro p9 h9; first | exact h9 | kst_mem | (simp only [List.mem_cons, List.mem_append]; simp [h9])))) l1
        rw [List.take_of_length_le hge] at hA
        exact hA
      · (rename (i : Int) ≠ (name.length : Int) => hbad); omega
end Mine
end
section -- D7
namespace Mine
def partsOf (mk : List Nat) (a : List Item) (b : List (List Item)) : List (Option (List Nat)) := (a.map (itemE mk)).map some ++ flatS (b.map fun m => m.map (itemE mk))
theorem partsOf_star (mk : List Nat) (m : List Item) (b : List (List Item)) : partsOf mk [] (m :: b) = none :: partsOf mk m b := by simp [partsOf, flatS]
theorem partsOf_item (mk : List Nat) (x : Item) (a : List Item) (b : List (List Item)) : partsOf mk (x :: a) b = some (itemE mk x) :: partsOf mk a b := by simp [partsOf]
theorem itemE_of (mk : List Nat) {c : Nat} (acc : List (Option (List Nat))) (h : c ≠ 42) : stepT mk acc c = acc ++ [some (itemE mk (itemOf c))] := by
  unfold stepT itemOf
  rw [if_neg h]
  split <;> rfl
theorem fold_parts (mk : List Nat) : ∀ (pat : List Nat) (acc : List (Option (List Nat))),
    pat.foldl (stepT mk) acc = acc ++ (if acc.getLast? = some none ∧ (segsOf pat).1 = [] ∧ (segsOf pat).2 ≠ [] then (partsOf mk (segsOf pat).1 (segsOf pat).2).tail else partsOf mk (segsOf pat).1 (segsOf pat).2)
  | [], acc => by simp [segsOf, partsOf, flatS]
  | c :: r, acc => by
    rw [List.foldl_cons]
    by_cases hc : c = 42
    · subst hc
      have hl : (stepT mk acc 42).getLast? = some none := by
        unfold stepT
        rw [if_pos rfl]
        split
        · rename_i h; exact h
        · simp
      rw [fold_parts mk r]
      by_cases hs : (segsOf r).1 = [] ∧ (segsOf r).2 ≠ []
      · have e : segsOf (42 :: r) = ([], (segsOf r).2) := by simp [segsOf, hs]
        obtain ⟨m, b, hb⟩ := List.exists_cons_of_ne_nil hs.2
        rw [if_pos ⟨hl, hs⟩, e, hs.1, hb, partsOf_star]
        by_cases ha : acc.getLast? = some none
        · rw [stepT_skip rfl ha, if_pos ⟨ha, rfl, by simp⟩]
        · rw [stepT_star rfl ha, if_neg (fun h => ha h.1)]; simp
      · have e : segsOf (42 :: r) = ([], (segsOf r).1 :: (segsOf r).2) := by simp only [segsOf, if_true, if_neg hs]
        rw [if_neg (fun h => hs h.2), e, partsOf_star]
        by_cases ha : acc.getLast? = some none
        · rw [stepT_skip rfl ha, if_pos ⟨ha, rfl, by simp⟩]; rfl
        · rw [stepT_star rfl ha, if_neg (fun h => ha h.1)]; simp
    · have e : segsOf (c :: r) = (itemOf c :: (segsOf r).1, (segsOf r).2) := by simp only [segsOf, if_neg hc]
      rw [itemE_of mk acc hc, fold_parts mk r, e, partsOf_item]
      rw [if_neg (fun h => by simp at h), if_neg (fun h => by simp at h)]
      simp
/-- what _translate's list holds -/
theorem fold_nil (mk : List Nat) (pat : List Nat) : pat.foldl (stepT mk) [] = partsOf mk (segsOf pat).1 (segsOf pat).2 := by
  rw [fold_parts mk pat []]; simp
end Mine
end
theorem Mine.quietC13 : True := by
  w_top off
  trivial
section -- C13
namespace Mine
theorem tx_app (a b : List Nat) : tx a ++ tx b = tx (a ++ b) := by
  show (⟨(a.toArray ++ b.toArray)⟩ : Str) = ⟨(a ++ b).toArray⟩
  simp
section
variable {prog : Program} {w : World} {M : Model} {A : Around} {E : Value → Shared → Prop} {s : Shared} {h₀ : Heap} {L l : Addr} {m : Str → Option Value} {news : List (Addr × Obj)}
theorem item_N {value slice : Expr} {vs : List Value} {n : Nat} {k : Int} {u : Tok} {v : Value} {Q : Value → Shared → Prop} (N : News h₀ L s.heap news) (hm : (l, W.listOf vs.toArray n) ∈ news) (h0 : 0 ≤ k) (hfit : k < 2 ^ 63) (hv : vs[k.toNat]? = some v) (h : Q v s)
    (hs : subscripted slice false (.ref l) (.int k u) = operate [.ref l, .int k u] (getItem (.ref l) (.int k u)) := by with_unfolding_all rfl) :
    wpAny (model prog w) A (subscriptTail value slice (.ref l) (.int k u)) Q E s :=
  item_listR (items := vs.toArray) ⟨_, (N _ hm).1, rfl, _, rfl⟩ h0 hfit (by simpa using hv) h hs
theorem len_N {vs : List Value} {n : Nat} {Q : Value → Shared → Prop} (N : News h₀ L s.heap news) (hm : (l, W.listOf vs.toArray n) ∈ news) (hsz : vs.length ≤ 100000) (h : Q (.int (vs.length : Int) (s.toks + 1)) { s with toks := s.toks + 1 + 1 }) :
    wpAny (model prog w) A (call (.builtin "len") [.ref l]) Q E s :=
  Calls.call_len_list (items := vs.toArray) ⟨_, (N _ hm).1, rfl, _, rfl⟩ (by rw [List.size_toArray]; omega) (by rw [List.size_toArray]; exact h)
theorem join_N {vs : List Value} {ts : List (List Nat)} {n : Nat} {t : Tok} {Q : Value → Shared → Prop} (N : News h₀ L s.heap news) (hm : (l, W.listOf vs.toArray n) ∈ news) (hi : StrsAre vs (ts.map tx)) (hsz : ts.flatten.length ≤ 100000)
    (h : ∀ t' k, Q (.str (tx ts.flatten) t') { s with toks := k }) : wpAny (model prog w) A (call (.builtin "str.join") [.str (Str.ofString "") t, .ref l]) Q E s := by
  have z : (Str.ofString "").length = 0 := by decide +kernel
  refine join_list (items := vs.toArray) ⟨_, (N _ hm).1, rfl, _, rfl⟩ hi ?_ ?_
  · rw [sum_tx, z]; omega
  · intro t' k; rw [join_tx]; exact h t' k
theorem is_self_ref {S : Addr} {Q : Value → Shared → Prop} (h : Q (.bool true) s) : wpAny M A (compareOp .Is (.ref S) (.ref S)) Q E s := by
  show wpAny M A (do return Value.bool (← isSame (.ref S) (.ref S))) Q E s
  exact wpAny_bind (wpAny_isSame_ref_self (wpAny_pure h))
end
end Mine
local macro_rules | `(tactic| walk_at "subscriptTail") => `(tactic| ((with_reducible show wpAny _ _ (subscriptTail _ _ (Value.ref _) (Value.int _ _)) _ _ _); k_dflt (refine' Mine.item_N ?k1 ?k2 ?k3 ?k4 ?k5 ?_; (case k1 => k_asm); (case k2 => (repeat (first | assumption | refine' List.Mem.tail _ ?_))); (case k3 => omega); (case k4 => omega); (case k5 => assumption); k_whole)))
local macro_rules | `(tactic| walk_at "call builtin:len") => `(tactic| ((with_reducible show wpAny _ _ (call _ [Value.ref _]) _ _ _); k_dflt (refine' Mine.len_N ?k1 ?k2 ?k3 ?_; (case k1 => k_asm); (case k2 => (repeat (first | assumption | refine' List.Mem.tail _ ?_))); (case k3 => omega); k_whole)))
local macro_rules | `(tactic| walk_at "call builtin:str.join") => `(tactic| ((with_reducible show wpAny _ _ (call _ [Value.str _ _, Value.ref _]) _ _ _); refine Mine.stop_of ?_))
local macro_rules | `(tactic| walk_at "compareOp IsNot ref ref") => `(tactic| (refine isnot_ref_same ?_))
local macro_rules | `(tactic| walk_at "compareOp Is ref ref") => `(tactic| (refine Mine.is_self_ref ?_))
local macro_rules | `(tactic| walk_at "compareOp IsNot str ref") => `(tactic| (refine wpAny_isNot_other (by rfl) (by intro x; cases x) ?_))
namespace Mine
/-- as Tells, with what must lie in the ledger -/
def TellsN (prog : Program) (w : World) (p : Program) (loose : List Str) (mean : ExcName → Option Value) (mg mb : Str → Option Value) (need : List (Addr × Obj)) (f : Addr) (args : List Value) (d : Nat) (R : Tok → Value) : Prop :=
  ∀ (dp un : Nat) (gd : Option (List Code)) (cn : Str) (cs : Scope) (a : Addr) (ccd : Value) (cl : List (Str × Addr)) (outer : List Env) (A₀ : Around) (base h₀ : Heap) (L : Addr) (m : Str → Option Value) (news : List (Addr × Obj)) (s : Shared) (Q E : Value → Shared → Prop),
    Below A₀ base outer h₀ → Fr h₀ L s.heap m → (hd.heap_39 w.params).In h₀ → News h₀ L s.heap news → Top p loose mean mg mb h₀ → cs.kind = .function → dp + d < recursionLimit → un + 8 * d + 64 < cLine → (∀ q ∈ need, q ∈ news) →
    (∀ t h' tk', Fr h₀ L h' m → News h₀ L h' news → Q (R t) { s with heap := h', toks := tk' }) →
    wpAny (model prog w) (ktrTop dp un gd cn cs L a ccd cl outer) (call (.ref f) args) Q E s
theorem fin_text (X : List Nat) : Str.empty ++ Str.ofString "(?s:" ++ tx X ++ Str.ofString ")\\Z" = tx ([40, 63, 115, 58] ++ X ++ [41, 92, 90]) := by
  have e1 : Str.ofString "(?s:" = tx [40, 63, 115, 58] := by decide +kernel
  have e2 : Str.ofString ")\\Z" = tx [41, 92, 90] := by decide +kernel
  have e0 : Str.empty = tx [] := rfl
  rw [e0, e1, e2, tx_app, tx_app, tx_app]; rfl
theorem mid_text (X : List Nat) : Str.empty ++ Str.ofString "(?>.*?" ++ tx X ++ Str.ofString ")" = tx ([40, 63, 62, 46, 42, 63] ++ X ++ [41]) := by
  have e1 : Str.ofString "(?>.*?" = tx [40, 63, 62, 46, 42, 63] := by decide +kernel
  have e2 : Str.ofString ")" = tx [41] := by decide +kernel
  have e0 : Str.empty = tx [] := rfl
  rw [e0, e1, e2, tx_app, tx_app, tx_app]; rfl
theorem fr_name {g h : Heap} {L : Addr} {m : Str → Option Value} {G : Prop} (F : Fr g L h m) (k : ∀ g1 L1 m1, g1 = g → L1 = L → m1 = m → G) : G := k _ _ _ rfl rfl rfl
theorem cut_cont {M : Model} {A : Around} {E : Value → Shared → Prop} {s : Shared} {t : Sem Flow} {Q : Flow → Shared → Prop} {α : Type} (P : α → Heap → Prop)
    (main : ∀ Q' : Flow → Shared → Prop, (∀ c h tk, P c h → Q' .next { s with heap := h, toks := tk }) → wpAny M A t Q' E s) (rest : ∀ c h tk, P c h → Q .next { s with heap := h, toks := tk }) : wpAny M A t Q E s := main Q rest
theorem grab3 {P : Addr → Prop} {q : Addr} {G : Prop} (h : P q) (k : ∀ q1 : Addr, q1 = q → P q1 → G) : G := k q rfl h
theorem part_star {S : Addr} {vs ps} {i : Nat} (hA : PartsAre S vs ps) (h : ps[i]? = some none) : vs[((i : Nat) : Int).toNat]? = some (.ref S) := by
  have hi : i < vs.length := by
    rw [hA.1]
    rcases Nat.lt_or_ge i ps.length with q | q
    · exact q
    · rw [List.getElem?_eq_none q] at h; cases h
  obtain ⟨v, hv⟩ : ∃ v, vs[i]? = some v := ⟨vs[i]'hi, by simp⟩
  obtain ⟨q9, h1, h2⟩ := hA.2 i v hv
  rw [h] at h1; cases h1
  cases h2
  exact hv
theorem part_text {S : Addr} {vs ps} {i : Nat} {x : List Nat} (hA : PartsAre S vs ps) (h : ps[i]? = some (some x)) : ∃ t, vs[((i : Nat) : Int).toNat]? = some (.str (tx x) t) := by
  have hi : i < vs.length := by
    rw [hA.1]
    rcases Nat.lt_or_ge i ps.length with q | q
    · exact q
    · rw [List.getElem?_eq_none q] at h; cases h
  obtain ⟨v, hv⟩ : ∃ v, vs[i]? = some v := ⟨vs[i]'hi, by simp⟩
  obtain ⟨q9, h1, h2⟩ := hA.2 i v hv
  rw [h] at h1; cases h1
  obtain ⟨t, rfl⟩ := h2
  exact ⟨t, hv⟩
set_option maxHeartbeats 8000000 in
theorem join_tells (prog : Program) (w : World) (p : Program) (loose : List Str) (mean : ExcName → Option Value) (mg mb : Str → Option Value) (S l : Addr) (vs : List Value) (n : Nat) (seg0 : List (List Nat)) (segs : List (List (List Nat))) (ps : List (Option (List Nat)))
    (hps : ps = seg0.map some ++ flatS segs) (hA : PartsAre S vs ps) (hg : GoodS segs) (hvl : vs.length ≤ 1000) (hfin : (seg0.flatten ++ outS segs).length ≤ 100000) :
    TellsN prog w p loose mean mg mb [(l, W.listOf vs.toArray n)] 85 [.ref l, .ref S] 1 (fun t => .str (tx ([40, 63, 115, 58] ++ (seg0.flatten ++ outS segs) ++ [41, 92, 90])) t) := by
  have hpl : vs.length = ps.length := hA.1
  refine fillT ?_
  k_fill
  intro _
  unfold TellsN
  intro dp un gd cn cs a ccd cl outer A₀ base h₀ L m news s Q E B F X N T hk hd hu hled hret
  refine wpAny_call ?_
  k_dflt cell_enter
  (rename Fr _ _ _ (fun y => List.lookup y _) => lF')
  (have lF2 := fr_clean [(Str.ofString "STAR", Value.ref S), (Str.ofString "inp", Value.ref l)] (by with_unfolding_all rfl) lF')
  clear lF'
  have hlm : (l, W.listOf vs.toArray n) ∈ news := hled _ (List.mem_cons_self ..)
  k_steps
  (rename Fr _ _ _ _ => lF'); (rename News _ _ _ _ => lN')
  (rename _ ∧ _ ∧ AllLt _ news => l3)
  clear l3
  (rename _ ∧ AllLt _ news => l2); (rename ∀ p9 : Addr × Obj, p9 ∈ news → p9.1 < _ => l1)
  refine grab2 l2 ?_
  intro q r e1 e2 l3
  subst e1; subst e2
  have hrq : (@Ne Nat q r) := Ne.symm (Nat.ne_of_lt l2.1)
  have hqn : ∀ p ∈ news, (@Ne Nat p.1 q) := fun p9 h9 => Nat.ne_of_lt (kst_ltOf l2.2 p9 h9)
  have hrn : ∀ p ∈ news, (@Ne Nat p.1 r) := fun p9 h9 => Nat.ne_of_lt (l1 p9 h9)
  clear l3
  refine fr_name lF' ?_
  intro G1 L1 m0 eG eL em
  subst eG; subst eL
  refine cut_cont (fun (c : List Value × Nat × Nat × Tok) h => Fr G1 L1 h (fun y => if y = Str.ofString "i" then some (Value.int (c.2.2.1 : Int) c.2.2.2) else m0 y) ∧ News G1 L1 h ((q, boundObj r) :: (r, W.listOf c.1.toArray c.2.1) :: news) ∧ ∃ ts : List (List Nat), StrsAre c.1 (ts.map tx) ∧ c.1.length ≤ c.2.2.1 ∧ c.2.2.1 ≤ ps.length ∧ ps.drop c.2.2.1 = flatS segs ∧ ts.flatten = seg0.flatten) (fun Q9 hcont => ?main) ?rest
  case main =>
   with_unfolding_all refine' ksw_while (σ := List Value × Nat × Nat × Tok) (fun c => (q, boundObj r) :: (r, W.listOf c.1.toArray c.2.1) :: news) (fun c => [(Str.ofString "i", Value.int (c.2.2.1 : Int) c.2.2.2)]) (fun _ => True) [] (fun c => ∃ ts : List (List Nat), StrsAre c.1 (ts.map tx) ∧ c.1.length ≤ c.2.2.1 ∧ c.2.2.1 ≤ ps.length ∧ ∃ x : List (List Nat), ps.drop c.2.2.1 = x.map some ++ flatS segs ∧ ts.flatten ++ x.flatten = seg0.flatten) (fun c => ps.length - c.2.2.1) ([], 0, 0, _) lF' ?hN trivial ?hk ?hp ?turn
   case hN => exact (cb_drop lN' (by (intro p9 h9; first | exact h9 | kst_mem | (simp only [List.mem_cons, List.mem_append]; simp [h9]))))
   case hk => kst_all
   case hp => exact ⟨[], .nil, Nat.zero_le _, Nat.zero_le _, seg0, hps, rfl⟩
   case turn =>
     intro c u h tk _ hP kF kN
     obtain ⟨rvs, rn, i, ti⟩ := c
     dsimp only at hP kF kN ⊢
     clear lF' lN'
     obtain ⟨ts, hts, hrl, hil, x, hx, hT⟩ := hP
     cases x with
     | cons x0 xr =>
       obtain ⟨hx1, hx2, hx3⟩ := drop_head hx
       have hv : ∃ t, vs[((i : Nat) : Int).toNat]? = some (.str (tx x0) t) := by
         obtain ⟨v, hv⟩ : ∃ v, vs[i]? = some v := ⟨vs[i]'(by omega), by simp⟩
         obtain ⟨q9, h1, h2⟩ := hA.2 i v hv
         rw [hx1] at h1; cases h1
         obtain ⟨t, rfl⟩ := h2
         exact ⟨t, hv⟩
       obtain ⟨tv, hv⟩ := hv
       k_steps
       (rename Fr _ _ _ _ => lF'); (rename News _ _ _ _ => lN')
       rw [List.push_toArray] at lN'
       refine ksw_end (⟨rvs ++ [.str (tx x0) tv], rn + 1, i + 1, _⟩ : List Value × Nat × Nat × Tok) lF' lN' (fun _ h => h) trivial (by kst_all) (by (intro z h2 h3; (try simp at h2); (try simp at h3); simp [h2, h3, kstB])) ⟨ts ++ [x0], by rw [List.map_append]; exact strs_snoc' hts, by rw [List.length_append]; exact Nat.succ_le_succ hrl, hx3, xr, hx2, by simpa using hT⟩ (by show ps.length - (i + 1) < ps.length - i; omega)
     | nil =>
       rw [List.map_nil, List.nil_append] at hx
       rw [List.flatten_nil, List.append_nil] at hT
       have hend : (ps.length ≤ i) ∨ (i < ps.length ∧ vs[((i : Nat) : Int).toNat]? = some (.ref S)) := by
         cases segs with
         | nil => exact .inl (drop_nil hx)
         | cons m r0 =>
           rw [flatS_cons] at hx
           obtain ⟨hx1, hx2, hx3⟩ := drop_head hx
           exact .inr ⟨hx3, part_star hA hx1⟩
       rcases hend with hend | ⟨hend, hv⟩
       all_goals
        k_steps
        subst em
        refine hcont (rvs, rn, i, ti) _ _ ⟨?_, ?_, ts, hts, hrl, hil, hx, hT⟩
        · (first | exact kF | assumption)
        · (first | exact kN | assumption)
  case rest =>
  intro c h tk hP
  obtain ⟨rvs, rn, i, ti⟩ := c
  dsimp only at hP
  obtain ⟨F9, N9, ts, hts, hrl, hil, hx, hT⟩ := hP
  clear lF' lN'
  subst em
  k_steps
  unfold StopHere
  (rename Fr _ _ _ _ => lF'); (rename News _ _ _ _ => lN')
  with_unfolding_all refine' ksw_while (σ := List Value × Nat × Nat × Tok) (fun c => (q, boundObj r) :: (r, W.listOf c.1.toArray c.2.1) :: news) (fun c => [(Str.ofString "i", Value.int (c.2.2.1 : Int) c.2.2.2)]) (fun _ => True) [Str.ofString "fixed"] (fun c => ∃ ts : List (List Nat), StrsAre c.1 (ts.map tx) ∧ c.1.length ≤ 2 * c.2.2.1 ∧ c.2.2.1 ≤ ps.length ∧ ∃ x : List (List (List Nat)), ps.drop c.2.2.1 = flatS x ∧ GoodS x ∧ ts.flatten ++ outS x = seg0.flatten ++ outS segs) (fun c => ps.length - c.2.2.1) (rvs, rn, i, _) lF' lN' trivial ?hk2 ?hp2 ?turn2
  case hk2 => kst_all
  case hp2 => exact ⟨ts, hts, by show rvs.length ≤ 2 * i; omega, hil, segs, hx, hg, by rw [hT]⟩
  case turn2 =>
    clear lF' lN'
    clear hx hT hts hrl hil
    (try clear kF)
    (try clear kN)
    intro c u2 h2 tk2 _ hP kF kN
    obtain ⟨rvs, rn, i, ti⟩ := c
    dsimp only at hP kF kN ⊢
    obtain ⟨ts, hts, hrl, hil, x, hx, hgx, hT⟩ := hP
    have hTl : ts.flatten.length + (outS x).length ≤ 100000 := by rw [← hT, List.length_append] at hfin; exact hfin
    cases x with
    | nil =>
      have hle := drop_nil hx
      have he : (i : Int) = (vs.length : Int) := by omega
      k_steps
      (try any_goals (exfalso; omega))
      unfold StopHere
      (rename Fr _ _ _ _ => lF'); (rename News _ _ _ _ => lN')
      refine join_N (vs := rvs) (ts := ts) lN' (List.Mem.tail _ (List.Mem.head _)) hts (by omega) ?_
      intro t9 k9
      have hTT : (tx ts.flatten).length ≤ 100000 := by rw [tx_len]; omega
      generalize hTe : tx ts.flatten = TT at hTT ⊢
      dsimp only
      k_steps
      rw [← hTe, fin_text, show ts.flatten = seg0.flatten ++ outS segs by simpa [outS] using hT]
      exact hret _ _ _ (by assumption) (cb_drop (by assumption) (by (intro p9 h9; first | exact h9 | kst_mem | (simp only [List.mem_cons, List.mem_append]; simp [h9]))))
    | cons m r0 =>
      rw [flatS_cons] at hx
      obtain ⟨hx1, hx2, hx3⟩ := drop_head hx
      have hv := part_star hA hx1
      cases m with
      | nil =>
        cases r0 with
        | cons m2 r2 => exact absurd rfl hgx.1
        | nil =>
          have hle := drop_nil hx2
          have he : (i : Int) + 1 = (vs.length : Int) := by omega
          k_steps
          (try any_goals (exfalso; omega))
          unfold StopHere
          (rename Fr _ _ _ _ => lF'); (rename News _ _ _ _ => lN')
          rw [List.push_toArray] at lN'
          refine join_N (ts := ts ++ [[46, 42]]) lN' (List.Mem.tail _ (List.Mem.head _)) (by rw [List.map_append]; exact strs_snoc' hts) (by rw [List.flatten_append, List.length_append]; exact hTl) ?_
          intro t9 k9
          have hTT : (tx (ts ++ [[46, 42]]).flatten).length ≤ 100000 := by rw [tx_len, List.flatten_append, List.length_append]; exact hTl
          generalize hTe : tx (ts ++ [[46, 42]]).flatten = TT at hTT ⊢
          dsimp only
          k_steps
          have e8 : ((ts ++ [[46, 42]]) : List (List Nat)).flatten = seg0.flatten ++ outS segs := by simpa [outS] using hT
          rw [← hTe, fin_text, e8]
          exact hret _ _ _ (by assumption) (cb_drop (by assumption) (by (intro p9 h9; first | exact h9 | kst_mem | (simp only [List.mem_cons, List.mem_append]; simp [h9]))))
      | cons x0 xr =>
        have hx4 : ps.drop (i + 1) = some x0 :: (xr.map some ++ flatS r0) := hx2
        obtain ⟨hx5, hx6, hx7⟩ := drop_head hx4
        obtain ⟨tv, hv2⟩ := part_text hA hx5
        have hv2 : vs[((i : Int) + 1).toNat]? = some (.str (tx x0) tv) := hv2
        have hne : ¬ ((i : Int) + 1 = (vs.length : Int)) := by omega
        k_steps
        (try any_goals (exfalso; omega))
        unfold StopHere
        (rename _ ∧ _ ∧ AllLt _ news => l4)
        (rename Fr _ _ _ _ => lF'); (rename News _ _ _ _ => lN')
        refine grab3 (P := fun f => q < f ∧ r < f ∧ AllLt f news) l4 ?_
        intro f e1 l5
        subst e1
        have hfq : (@Ne Nat f q) := Ne.symm (Nat.ne_of_lt l5.1)
        have hfr : (@Ne Nat f r) := Ne.symm (Nat.ne_of_lt l5.2.1)
        have hfn : ∀ p ∈ news, (@Ne Nat p.1 f) := fun p9 h9 => Nat.ne_of_lt (kst_ltOf l5.2.2 p9 h9)
        generalize hmm : x0 :: xr = mm at hx hgx hT hTl hx2 hx4
        with_unfolding_all refine' ksw_while (σ := List Value × Nat × Int × Tok) (fun c => (f, W.listOf c.1.toArray c.2.1) :: (q, boundObj r) :: (r, W.listOf rvs.toArray rn) :: news) (fun c => [(Str.ofString "i", Value.int c.2.2.1 c.2.2.2)]) (fun _ => True) [] (fun c => ∃ j : Nat, c.2.2.1 = (i : Int) + 1 + j ∧ j ≤ mm.length ∧ StrsAre c.1 ((mm.take j).map tx) ∧ c.1.length ≤ j) (fun c => (ps.length - c.2.2.1).toNat) ([], 0, (i : Int) + 1, _) lF' lN' trivial ?hk3 ?hp3 ?turn3
        case hk3 => kst_all
        case hp3 => exact ⟨0, by simp, Nat.zero_le _, by rw [List.take_zero]; exact .nil, Nat.le_refl _⟩
        case turn3 =>
          clear lF' lN'
          (try clear kF)
          (try clear kN)
          intro c u3 h3 tk3 _ hP kF kN
          obtain ⟨fvs, fn, k, tik⟩ := c
          dsimp only at hP kF kN ⊢
          obtain ⟨j, hk, hj, hfs, hfl⟩ := hP
          have hdj : ps.drop (i + 1 + j) = (mm.drop j).map some ++ flatS r0 := by
            rw [← List.drop_drop, hx2, List.drop_append_of_le_length (by rw [List.length_map]; exact hj), List.map_drop]
          cases hmj : mm.drop j with
          | cons y yr =>
            rw [hmj] at hdj
            obtain ⟨hy1, hy2, hy3⟩ := drop_head hdj
            obtain ⟨ty, hv3⟩ := part_text hA hy1
            have ek : k = ((i + 1 + j : Nat) : Int) := by omega
            rw [← ek] at hv3
            have hk0 : 0 ≤ k := by omega
            k_steps
            (rename Fr _ _ _ _ => lF'); (rename News _ _ _ _ => lN')
            rw [List.push_toArray] at lN'
            have hyj : mm[j]? = some y := (drop_head hmj).1
            have hjl := (drop_head hmj).2.2
            refine ksw_end (⟨fvs ++ [.str (tx y) ty], fn + 1, k + 1, _⟩ : List Value × Nat × Int × Tok) lF' lN' (fun _ h => h) trivial (by kst_all) (by (intro z h2 h3; (try simp at h2); (try simp at h3); simp [h2, h3, kstB])) ⟨j + 1, by show k + 1 = (i : Int) + 1 + ((j + 1 : Nat) : Int); omega, hjl, ?_, by rw [List.length_append]; exact Nat.succ_le_succ hfl⟩ (by show ((ps.length : Int) - (k + 1)).toNat < ((ps.length : Int) - k).toNat; omega)
            rw [List.take_add_one, hyj, List.map_append]
            exact strs_snoc' hfs
          | nil =>
            rw [hmj, List.map_nil, List.nil_append] at hdj
            have hjl := List.drop_eq_nil_iff.mp hmj
            have hjm : j = mm.length := by omega
            cases r0 with
            | nil =>
              have hle := drop_nil hdj
              have hil2 : i + 1 + j ≤ ps.length := by
                have := congrArg List.length hx2
                rw [List.length_drop, List.length_append, List.length_map] at this; omega
              have hkn : k = (vs.length : Int) := by omega
              k_steps
              (try any_goals (exfalso; omega))
              unfold StopHere
              (rename Fr _ _ _ _ => lF'); (rename News _ _ _ _ => lN')
              rw [hjm, List.take_length] at hfs
              have hfl2 : mm.flatten.length ≤ 100000 := by rw [outS_one, List.length_append] at hTl; omega
              refine join_N (ts := mm) lN' (List.Mem.head _) hfs hfl2 ?_
              intro t9 k9
              have hTT : (tx mm.flatten).length ≤ 100000 := by rw [tx_len]; exact hfl2
              generalize hTe : tx mm.flatten = TT at hTT ⊢
              dsimp only
              k_steps
              (try any_goals (exfalso; omega))
              (rename Fr _ _ _ _ => lF'); (rename News _ _ _ _ => lN')
              rw [List.push_toArray, List.push_toArray] at lN'
              have ek2 : k = ((i + 1 + j : Nat) : Int) := by omega
              rw [ek2] at lF'
              have e5 : Str.ofString ".*" = tx [46, 42] := by decide +kernel
              refine ksw_end (⟨(rvs ++ [.str (Str.ofString ".*") _]) ++ [.str TT t9], rn + 1 + 1, i + 1 + j, _⟩ : List Value × Nat × Nat × Tok) lF' lN' (fun _ h => List.mem_cons_of_mem _ h) trivial (by kst_all) (by (intro z h2 h3; (try simp at h2); (try simp at h3); simp [h2, h3, kstB])) ⟨ts ++ [[46, 42]] ++ [mm.flatten], ?_, ?_, hil2, [], hdj, trivial, ?_⟩ (by show ps.length - (i + 1 + j) < ps.length - i; omega)
              · rw [List.map_append, List.map_append]
                show StrsAre _ (ts.map tx ++ [tx [46, 42]] ++ [tx mm.flatten])
                rw [hTe, ← e5]
                exact strs_snoc' (strs_snoc' hts)
              · show ((rvs ++ [_]) ++ [_]).length ≤ 2 * (i + 1 + j)
                rw [List.length_append, List.length_append]
                simp only [List.length_cons, List.length_nil]
                omega
              · show (ts ++ [[46, 42]] ++ [mm.flatten]).flatten ++ outS [] = _
                rw [← hT]; simp [outS]
            | cons m2 r2 =>
              have hdj0 := hdj
              rw [flatS_cons] at hdj
              obtain ⟨hy1, hy2, hy3⟩ := drop_head hdj
              have hv3 := part_star hA hy1
              have ek : k = ((i + 1 + j : Nat) : Int) := by omega
              rw [← ek] at hv3
              have hk0 : 0 ≤ k := by omega
              have hkn : ¬ (k = (vs.length : Int)) := by omega
              k_steps
              (try any_goals (exfalso; omega))
              unfold StopHere
              (rename Fr _ _ _ _ => lF'); (rename News _ _ _ _ => lN')
              rw [hjm, List.take_length] at hfs
              have hfl2 : mm.flatten.length ≤ 100000 := by rw [outS_more, List.length_append, List.length_append, List.length_append] at hTl; omega
              refine join_N (ts := mm) lN' (List.Mem.head _) hfs hfl2 ?_
              intro t9 k9
              have hTT : (tx mm.flatten).length ≤ 100000 := by rw [tx_len]; exact hfl2
              generalize hTe : tx mm.flatten = TT at hTT ⊢
              dsimp only
              k_steps
              (try any_goals (exfalso; omega))
              (rename Fr _ _ _ _ => lF'); (rename News _ _ _ _ => lN')
              rw [List.push_toArray] at lN'
              have ek2 : k = ((i + 1 + j : Nat) : Int) := by omega
              rw [ek2] at lF'
              refine ksw_end (⟨rvs ++ [.str (Str.empty ++ Str.ofString "(?>.*?" ++ TT ++ Str.ofString ")") _], rn + 1, i + 1 + j, _⟩ : List Value × Nat × Nat × Tok) lF' lN' (fun _ h => List.mem_cons_of_mem _ h) trivial (by kst_all) (by (intro z h2 h3; (try simp at h2); (try simp at h3); simp [h2, h3, kstB])) ⟨ts ++ [[40, 63, 62, 46, 42, 63] ++ mm.flatten ++ [41]], ?_, ?_, Nat.le_of_lt hy3, m2 :: r2, hdj0, goodS_tail hgx, ?_⟩ (by show ps.length - (i + 1 + j) < ps.length - i; omega)
              · rw [List.map_append]
                show StrsAre _ (ts.map tx ++ [tx ([40, 63, 62, 46, 42, 63] ++ mm.flatten ++ [41])])
                rw [← mid_text, hTe]
                exact strs_snoc' hts
              · show (rvs ++ [_]).length ≤ 2 * (i + 1 + j)
                rw [List.length_append]
                simp only [List.length_cons, List.length_nil]
                omega
              · show (ts ++ [[40, 63, 62, 46, 42, 63] ++ mm.flatten ++ [41]]).flatten ++ outS (m2 :: r2) = _
                rw [← hT, outS_more]; simp
end Mine
end
theorem Mine.quietC15 : True := by
  w_top off
  trivial
section -- C15
namespace Mine
open PySem
namespace Obj
theorem mro_object : mroOf (.type "object") = pure [.type "object"] := by rw [mroOf_type]; kernel_rfl
theorem lookup_object_new : typeLookup (.type "object") "__new__" = pure (some (.builtin "object.__new__")) := by rw [typeLookup_type, builtinLookup_eq_fast]; kernel_rfl
theorem slot_object_init : Slot "object" "__init__" "object.__init__" :=
  .of (owner := "object") (n := "__init__") (by rw [typeLookup_type, builtinLookup_eq_fast]; kernel_rfl) (by decide +kernel) (by decide +kernel) (by decide +kernel)
    (by first | exact .inl (by decide +kernel) | exact .inr (by decide +kernel)) (by rw [isSubtype_type]; kernel_rfl)
theorem called_object : TypeCalled "object" "object.__new__" "object.__init__" :=
  ⟨by decide +kernel, by decide +kernel, ⟨_, _, mro_object⟩, madeBy_type mro_object lookup_object_new (by decide +kernel), by decide +kernel, by rw [isSubtype_type]; kernel_rfl, slot_object_init⟩
theorem typeCall_object_0 : checkTypeCall "object" ⟨[], []⟩ = pure () := by kernel_rfl
theorem newCall_object_0 : checkBuiltinCall "object.__new__" ⟨[.type "object"], []⟩ = pure () := by kernel_rfl
theorem entry_object_new : entryFor table "object.__new__" = some Builtin.«object.__new__» := entryFor_of_tree (by kernel_rfl)
theorem entry_object_init : entryFor table "object.__init__" = some Builtin.«object.__init__» := entryFor_of_tree (by kernel_rfl)
theorem plain_object_new : plainId "object.__new__" = true := by decide +kernel
theorem canNew : ((Manifest.find? "object").elim false fun x => x.mro.any fun t => (Manifest.find? t).elim false fun x => x.noNew) = false := by decide +kernel
theorem madeHere_object : Bind.madeHere "object.__new__" (.type "object") = pure () := by kernel_rfl
theorem noDict : typeHasDict (.type "object") = false := by decide +kernel
theorem noDel : diesByItsTypesDel "object" = false := by decide +kernel
end Obj
section
variable {prog : Program} {w : World} {A : Around} {E : Value → Shared → Prop} {s : Shared}
abbrev bareObj : Obj := { cls := .type "object", data := .plain }
set_option maxRecDepth 1000000 in
theorem code_object_new {Q₁ : Value → Shared → Prop} (h : Q₁ (.ref s.heap.objs.size) { s with heap := s.heap.push bareObj }) :
    codeAny (model prog w) A (.call (.builtin "object.__new__") ⟨[.type "object"], []⟩) (wants Q₁ E) s := by
  refine codeAny_of_tree ?_
  show wpAny _ A.in1 (do checkBuiltinCall "object.__new__" ⟨[.type "object"], []⟩; again (.builtin "object.__new__" ⟨[.type "object"], []⟩)) _ _ s
  refine wpAny_bind (wpAny_of_eq Obj.newCall_object_0 (wpAny_pure ⟨plainId_quiet Obj.plain_object_new _, codeAny_builtin Obj.entry_object_new ?_⟩))
  rw [Around.under_plainId Obj.plain_object_new _]
  unfold Builtin.«object.__new__»
  obtain ⟨hp, g, d, tk, os⟩ := s
  dsimp only
  have e1 : isType (.type "object") = pure true := rfl
  refine wpAny_bind (wpAny_of_eq e1 ?_)
  rw [if_neg (by decide)]
  rw [if_neg (by rw [Obj.canNew]; decide)]
  refine wpAny_bind (wpAny_of_eq Obj.madeHere_object ?_)
  rw [if_neg (by decide)]
  rw [if_neg (by rw [Obj.noDict]; decide)]
  refine wpAny_bind (wpAny_pure ?_)
  refine wpAny_bind (wpAny_newObj_type ?_ (by trivial))
  rw [if_neg (by rw [Obj.noDel]; decide)]
  exact wpAny_pure h
theorem args_object_init (a : Value) : argsOk "object.__init__" ⟨[a], []⟩ := by unfold argsOk; kernel_rfl
set_option maxHeartbeats 1000000 in
theorem call_object {Q : Value → Shared → Prop} (h : Q (.ref s.heap.objs.size) { s with heap := s.heap.push bareObj }) : wpAny (model prog w) A (call (.type "object") []) Q E s := by
  obtain ⟨c, tl, hmro⟩ := Obj.called_object.mro
  have hmade := Obj.called_object.made
  have hsub := Obj.called_object.sub
  refine wpAny_call (codeAny_of_tree ?_)
  show wpAny _ _ (callAny (.type "object") _) _ _ _
  refine wpAny_pure ⟨Code.quiet_builtin _ (by decide +kernel), codeAny_builtin PySem.F.entry_type_call ?_⟩
  rw [Around.under_plain (weight_type_call_type "object" [] []) rfl]
  have h1 := Obj.called_object.notType
  have h2 := Obj.called_object.canCreate
  have hct := Obj.typeCall_object_0
  repeat (any_goals (first | assumption | wp_step))
  refine codeAny_mono (code_object_new (E := E) (Q₁ := fun obj s₁ => obj = .ref s.heap.objs.size ∧ s₁ = { s with heap := s.heap.push bareObj }) ⟨rfl, rfl⟩) fun r s₁ hr => ?_
  cases r with
  | error e => exact hr
  | ok fl =>
    cases fl with
    | ret obj =>
      obtain ⟨rfl, rfl⟩ := hr
      have hS : (s.heap.push bareObj).get? s.heap.objs.size = some bareObj := Heap.get?_push_size _ rfl
      have hT : Shared.TypeIs { s with heap := s.heap.push bareObj } (.ref s.heap.objs.size) "object" := ⟨_, hS, rfl⟩
      have hli := Obj.called_object.init.lookup
      have hbi := Obj.called_object.init.bind (.ref s.heap.objs.size)
      repeat (any_goals (first | assumption | wp_step))
      refine codeAny_mono (codeAny_call_builtin (R := wants (fun r s₂ => r = .none ∧ Q (.ref s.heap.objs.size) s₂) E) Obj.called_object.init.plain Obj.entry_object_init (Obj.called_object.init.check _ _ _ _ _ _ _ _ hT (args_object_init _) ?_)) fun r₂ s₂ hr₂ => ?_
      · unfold Builtin.«object.__init__»
        wp_walk
        exact ⟨rfl, h⟩
      · cases r₂ with
        | error e => exact hr₂
        | ok fl₂ =>
          cases fl₂ with
          | ret r =>
            obtain ⟨rfl, hq⟩ := hr₂
            repeat (any_goals (first | assumption | wp_step))
          | _ => exact hr₂.elim
    | _ => exact hr.elim
end
section
variable {prog : Program} {w : World} {A : Around} {E : Value → Shared → Prop} {s : Shared} {h₀ : Heap} {L : Addr} {m : Str → Option Value} {news : List (Addr × Obj)}
theorem object_K {Q : Value → Shared → Prop} (F : Fr h₀ L s.heap m) (N : News h₀ L s.heap news)
    (h : ∀ q h', Fr h₀ L h' m → News h₀ L h' ((q, bareObj) :: news) → (∀ p ∈ news, p.1 < q) → Q (.ref q) { s with heap := h' }) : wpAny (model prog w) A (call (.type "object") []) Q E s :=
  call_object (h _ _ (F.push _) (N.push F _) fun p hp => Heap.lt_size (N p hp).1)
end
end Mine
end
theorem Mine.quietC14 : True := by
  w_top off
  trivial
section -- C14
local macro_rules | `(tactic| walk_at "call type:object") => `(tactic| (k_here; k_dflt (refine' Mine.object_K ?k1 ?k2 ?_; (case k1 => k_asm); (case k2 => k_asm); k_whole); intro q' h' F' N' l1; (try k_lt l1); (try k_sweep)))
namespace Mine
theorem tellsL_use {prog : Program} {w : World} {p : Program} {loose : List Str} {mean : ExcName → Option Value} {mg mb : Str → Option Value} {need : List (Addr × Obj)} {f : Addr} {args : List Value} {d : Nat} {V : List Value → Prop}
    {dp un : Nat} {gd : Option (List Code)} {cn : Str} {cs : Scope} {a : Addr} {ccd : Value} {cl : List (Str × Addr)} {outer : List Env} {A₀ : Around} {base h₀ : Heap} {L : Addr} {m : Str → Option Value} {news : List (Addr × Obj)} {s : Shared} {Q E : Value → Shared → Prop}
    (B : Below A₀ base outer h₀) (F : Fr h₀ L s.heap m) (X : (hd.heap_39 w.params).In h₀) (N : News h₀ L s.heap news) (T : Top p loose mean mg mb h₀) (hk : cs.kind = .function) (C : TellsL prog w p loose mean mg mb need f args d V) (hd : dp + d < recursionLimit) (hu : un + 8 * d + 64 < cLine) (hn : ∀ q ∈ need, q ∈ news)
    (ret : ∀ l vs n h' tk', V vs → Fr h₀ L h' m → News h₀ L h' ((l, listOf vs.toArray n) :: news) → (∀ q ∈ news, q.1 < l) → Q (.ref l) { s with heap := h', toks := tk' }) :
    wpAny (model prog w) (ktrTop dp un gd cn cs L a ccd cl outer) (call (.ref f) args) Q E s := C _ _ _ _ _ _ _ _ _ _ _ _ _ _ _ _ _ _ B F X N T hk hd hu hn ret
theorem tellsN_use {prog : Program} {w : World} {p : Program} {loose : List Str} {mean : ExcName → Option Value} {mg mb : Str → Option Value} {need : List (Addr × Obj)} {f : Addr} {args : List Value} {d : Nat} {R : Tok → Value}
    {dp un : Nat} {gd : Option (List Code)} {cn : Str} {cs : Scope} {a : Addr} {ccd : Value} {cl : List (Str × Addr)} {outer : List Env} {A₀ : Around} {base h₀ : Heap} {L : Addr} {m : Str → Option Value} {news : List (Addr × Obj)} {s : Shared} {Q E : Value → Shared → Prop}
    (B : Below A₀ base outer h₀) (F : Fr h₀ L s.heap m) (X : (hd.heap_39 w.params).In h₀) (N : News h₀ L s.heap news) (T : Top p loose mean mg mb h₀) (hk : cs.kind = .function) (C : TellsN prog w p loose mean mg mb need f args d R) (hd : dp + d < recursionLimit) (hu : un + 8 * d + 64 < cLine) (hn : ∀ q ∈ need, q ∈ news)
    (ret : ∀ t h' tk', Fr h₀ L h' m → News h₀ L h' news → Q (R t) { s with heap := h', toks := tk' }) :
    wpAny (model prog w) (ktrTop dp un gd cn cs L a ccd cl outer) (call (.ref f) args) Q E s := C _ _ _ _ _ _ _ _ _ _ _ _ _ _ _ _ _ _ B F X N T hk hd hu hn ret
theorem parts_len (mk : List Nat) : ∀ (pat : List Nat) (acc : List (Option (List Nat))), (pat.foldl (stepT mk) acc).length ≤ acc.length + pat.length
  | [], acc => Nat.le_refl _
  | c :: r, acc => by
    have ih := parts_len mk r (stepT mk acc c)
    have h1 : (stepT mk acc c).length ≤ acc.length + 1 := by
      unfold stepT
      split
      · split <;> simp
      · split <;> simp
    rw [List.foldl_cons, List.length_cons]; omega
theorem text_fits {mk pat : List Nat} {B : Nat} (h : (textOf mk pat).length ≤ B) : (((segsOf pat).1.map (itemE mk)).flatten ++ outS ((segsOf pat).2.map fun m => m.map (itemE mk))).length ≤ B := by
  unfold textOf at h
  rw [List.length_append, List.length_append] at h
  omega
set_option maxHeartbeats 8000000 in
theorem trans_tells (prog : Program) (w : World) (p : Program) (loose : List Str) (mean : ExcName → Option Value) (mg mb : Str → Option Value) (pat : List Nat) (t0 : Tok)
    (hlp : pat.length ≤ 1000) (hb : ∀ c ∈ pat, c = 42 ∨ c = 63 ∨ okC c) (hfin : (textOf [46] pat).length ≤ 100000) :
    Tells prog w p loose mean mg mb 59 [.str (tx pat) t0] 3 (fun t => .str (tx (textOf [46] pat)) t) := by
  have hln : (tx pat).length ≤ 1000 := by rw [tx_len]; omega
  refine fillT ?_
  k_fill
  intro _
  unfold Tells
  intro dp un gd cn cs a ccd cl outer A₀ base h₀ L m news s Q E B F X N T hk hd hu hret
  refine wpAny_call ?_
  k_dflt cell_enter
  (rename Fr _ _ _ (fun y => List.lookup y _) => lF')
  (have lF2 := fr_clean [(Str.ofString "pat", Value.str (tx pat) t0)] (by with_unfolding_all rfl) lF')
  clear lF'
  k_steps
  have e46 : Str.ofString "." = tx [46] := by decide +kernel
  rw [e46]
  refine' tellsL_use ?k1 ?k2 ?k3 ?k4 ?k5 ?kK (translate_tells prog w p loose mean mg mb pat [46] _ _ _ hlp hb) ?kd ?ku ?kn ?_; (case k1 => k_asm); (case k2 => k_asm); (case k3 => k_asm); (case k4 => k_asm); (case k5 => k_asm); (case kK => first | exact rfl | assumption); (case kd => ktr_room); (case ku => ktr_units); (case kn => intro q9 h9; cases h9)
  intro l9 vs9 n9 h9 tk9 V9 F9 N9 lt9
  (try dsimp only)
  (try k_fold)
  have hvl : vs9.length ≤ 1000 := by
    have := parts_len [46] pat []
    rw [V9.1]
    simp only [List.length_nil] at this; omega
  rw [fold_nil] at V9
  k_steps
  refine' tellsN_use ?k1 ?k2 ?k3 ?k4 ?k5 ?kK (join_tells prog w p loose mean mg mb _ l9 vs9 n9 _ _ _ rfl V9 (segs_good [46] pat).2 hvl (text_fits hfin)) ?kd ?ku ?kn ?_; (case k1 => k_asm); (case k2 => k_asm); (case k3 => k_asm); (case k4 => k_asm); (case k5 => k_asm); (case kK => first | exact rfl | assumption); (case kd => ktr_room); (case ku => ktr_units); (case kn => intro q9 h9; rw [List.mem_singleton.mp h9]; exact List.mem_cons_self ..)
  intro t9 h9 tk9 F9 N9
  (try dsimp only)
  (try k_fold)
  k_steps
  exact hret _ _ _ (by assumption) (cb_drop (by assumption) (by (intro p9 h9; first | exact h9 | kst_mem | (simp only [List.mem_cons, List.mem_append]; simp [h9]))))
end Mine
end
end
theorem Mine.quietC1 : True := by
  w_top off
  trivial
section -- C1
namespace Mine
set_option maxHeartbeats 8000000 in
theorem one_tells (prog : Program) (w : World) (p : Program) (loose : List Str) (mean : ExcName → Option Value) (mg mb : Str → Option Value) (mark name : Str) (at_ : Int) (t1 t2 t3 : Tok)
    (h0 : 0 ≤ at_) (h1 : at_ ≤ 1000) (hn : name.length ≤ 1000) :
    Tells prog w p loose mean mg mb 104 [.str mark t1, .str name t2, .int at_ t3] 1 (fun t => .int (oneF mark name at_) t) := by
  refine fillT ?_
  k_fill
  intro _
  unfold Tells
  intro dp un gd cn cs a ccd cl outer A₀ base h₀ L m news s Q E B F X N T hk hd hu hret
  refine wpAny_call ?_
  k_dflt cell_enter
  (rename Fr _ _ _ (fun y => List.lookup y _) => lF')
  (have lF2 := fr_clean [(Str.ofString "at", Value.int at_ t3), (Str.ofString "name", Value.str name t2), (Str.ofString "mark", Value.str mark t1)] (by with_unfolding_all rfl) lF')
  clear lF'
  k_steps
  · refine cb_retI hret ?_ (by assumption) (cb_drop (by assumption) (by (intro p9 h9; first | exact h9 | kst_mem | (simp only [List.mem_cons, List.mem_append]; simp [h9]))))
    unfold oneF
    simp only [*, if_true]
  · (rename Fr _ _ _ _ => lF'); (rename News _ _ _ _ => lN')
    (rename (mark == Str.ofString ".") = false => hmark)
    with_unfolding_all refine' iterS_list (σ := Unit) (fun _ => news) (fun _ => []) [] (fun i _ => (0 < i → (Txt.slice name (some at_) (some (at_ + 5)) == Str.ofString "&amp;") = false) ∧ (1 < i → (Txt.slice name (some at_) (some (at_ + 4)) == Str.ofString "&lt;") = false) ∧ (2 < i → (Txt.slice name (some at_) (some (at_ + 4)) == Str.ofString "&gt;") = false)) () (by rfl) ?hl ?hlL lF' (by exact fun p hp => lN' p (List.mem_cons_of_mem _ hp)) (by simp) (by simp) ?_ ?_
    case hl => exact ⟨_, (lN' _ (List.mem_cons_self ..)).1, rfl, _, rfl⟩
    case hlL => exact (lN' _ (List.mem_cons_self ..)).2.1
    · intro I i v c u h tk own hv hIo hq hP kF kN
      clear lF' lN'
      (rcases i with _ | _ | _ | i)
      · obtain rfl := Option.some.inj hv
        k_steps
        · refine cb_retI hret ?_ (by assumption) (cb_drop (by assumption) (by (intro p9 h9; first | exact h9 | kst_mem | (simp only [List.mem_cons, List.mem_append]; simp [h9]))))
          (rename (Txt.slice name _ _ == _) = true => hs)
          have hs' : (Txt.slice name (some at_) (some (at_ + 5)) == Str.ofString "&amp;") = true := hs
          unfold oneF
          simp [hmark, hs']
        · (rename (Txt.slice name _ _ == _) = false => hs)
          exact endS () (by assumption) (by assumption) (by (intro p9 h9; kst_mem)) (by (intro p9 h9; kst_mem)) hq (by simp) (by (intro z h1 h2 h3; (try simp at h2); (try simp at h3); simp [h1, h2, h3, kstB])) ⟨fun _ => hs, fun h => absurd h (by decide), fun h => absurd h (by decide)⟩
      · obtain rfl := Option.some.inj hv
        k_steps
        · refine cb_retI hret ?_ (by assumption) (cb_drop (by assumption) (by (intro p9 h9; first | exact h9 | kst_mem | (simp only [List.mem_cons, List.mem_append]; simp [h9]))))
          (rename (Txt.slice name _ _ == _) = true => hs)
          have hs' : (Txt.slice name (some at_) (some (at_ + 4)) == Str.ofString "&lt;") = true := hs
          have h1' := hP.1 (by decide)
          unfold oneF
          simp [hmark, hs', h1']
        · (rename (Txt.slice name _ _ == _) = false => hs)
          exact endS () (by assumption) (by assumption) (by (intro p9 h9; kst_mem)) (by (intro p9 h9; kst_mem)) hq (by simp) (by (intro z h1 h2 h3; (try simp at h2); (try simp at h3); simp [h1, h2, h3, kstB])) ⟨fun _ => hP.1 (by decide), fun _ => hs, fun h => absurd h (by decide)⟩
      · obtain rfl := Option.some.inj hv
        k_steps
        · refine cb_retI hret ?_ (by assumption) (cb_drop (by assumption) (by (intro p9 h9; first | exact h9 | kst_mem | (simp only [List.mem_cons, List.mem_append]; simp [h9]))))
          (rename (Txt.slice name _ _ == _) = true => hs)
          have hs' : (Txt.slice name (some at_) (some (at_ + 4)) == Str.ofString "&gt;") = true := hs
          have h1' := hP.1 (by decide)
          have h2' := hP.2.1 (by decide)
          unfold oneF
          simp [hmark, hs', h1', h2']
        · (rename (Txt.slice name _ _ == _) = false => hs)
          exact endS () (by assumption) (by assumption) (by (intro p9 h9; kst_mem)) (by (intro p9 h9; kst_mem)) hq (by simp) (by (intro z h1 h2 h3; (try simp at h2); (try simp at h3); simp [h1, h2, h3, kstB])) ⟨fun _ => hP.1 (by decide), fun _ => hP.2.1 (by decide), fun _ => hs⟩
      · cases hv
    · intro c u h tk hP kF kN
      clear lF' lN'
      have h1' := hP.1 (by simp)
      have h2' := hP.2.1 (by simp)
      have h3' := hP.2.2 (by simp)
      k_steps
      all_goals
        refine cb_retI hret ?_ (by assumption) (cb_drop (by assumption) (by (intro p9 h9; first | exact h9 | kst_mem | (simp only [List.mem_cons, List.mem_append]; simp [h9]))))
        (rename (Builtin.Str.occurrences _ _ _ _ _).isEmpty = _ => hs)
        unfold oneF
        simp [hmark, hs, h1', h2', h3']
end Mine
end
theorem Mine.quietC4 : True := by
  w_top off
  trivial
section -- C4
namespace Mine
section
variable {prog : Program} {w : World} {A : Around} {E : Value → Shared → Prop} {s : Shared} {env : Env} {h₀ : Heap} {target : Expr} {body : List Stmt} {Q : Flow → Shared → Prop}

/-- a loop whose target is assigned by the walk (a cell, a tuple) -/
def LoopT (prog : Program) (w : World) (A : Around) (h₀ : Heap) (env : Env) (target : Expr) (body : List Stmt) (Q : Flow → Shared → Prop) (E : Value → Shared → Prop) (it : Value) (s₂ : Shared) : Prop :=
  ∃ (I : Addr) (fp : List Addr) (n : Nat) (P : Nat → Value → Prop) (St : Nat → Heap → Prop) (m : Str → Option Value) (news : List (Addr × Obj)) (J : Nat → (Str → Option Value) → List (Addr × Obj) → Prop),
    it = .ref I ∧ Walks prog w A I fp [I] n P St ∧ (∀ i h, St i h → ∃ o, h.get? I = some o) ∧ env.locals ∉ fp ∧ h₀.get? I = none ∧ (∀ q ∈ news, q.1 ≠ I) ∧ St 0 s₂.heap ∧ Fr h₀ env.locals s₂.heap m ∧ News h₀ env.locals s₂.heap news ∧ J 0 m news ∧
    (∀ i v m₁ news₁ h tk own, i < n → P i v → (∃ o, (I, o) ∈ own) → (∀ q ∈ news₁, q.1 ≠ I) → (∀ p ∈ own, p.1 ∈ fp) → J i m₁ news₁ → Fr h₀ env.locals h m₁ → News h₀ env.locals h (news₁ ++ own) →
      wpAny (model prog w) A (assign target env v) (fun _ s₃ => wpAny (model prog w) A (execs body env) (PostW h₀ env.locals I (J (i + 1)) own { s₂ with heap := h, toks := tk } Q) E s₃) E { s₂ with heap := h, toks := tk }) ∧
    ∀ h' tk m' news', Fr h₀ env.locals h' m' → News h₀ env.locals h' news' → J n m' news' → Q .next { s₂ with heap := h', toks := tk }

theorem For_T {pos : Pos} {iter : Expr} (h₀ : Heap)
    (h : wpAny (model prog w) A (eval iter env) (fun xv s₁ => wpAny (model prog w) A (pyIter xv) (fun it s₂ => LoopT prog w A h₀ env target body Q E it s₂) E s₁) E s)
    (hs : ∀ x, foldedSetIterable iter env x = pure x := by intro _; rfl) (ht : ∀ it v, letOwnedTupleGo target it v = pure () := by intro _ _; rfl)
    (hE : PassesOwn (model prog w) A env E := by passes_own) :
    wpAny (model prog w) A (exec (.For target iter body [] pos) env) Q E s := by
  refine wpAny_For (wpAny_mono h (fun xv s₁ h₁ => wpAny_mono h₁ (fun it s₂ h₂ => ?_) fun _ _ e => e) fun _ _ e => e) hs
  obtain ⟨I, fp, n, P, St, m, news, J, rfl, W, hlive, hLf, hI, hnI, hst, F, N, hJ, turn, hR⟩ := h₂
  have hLI : env.locals ≠ I := fun h => hLf (W.sub _ (List.mem_singleton.mpr h))
  refine codeAny_forLoop (R := fun r s' => match r with | .ok f => Q f s' | .error e => cameBackBy (model prog w) A env E e s')
    (fun k s' => ∃ h' tk m' news' i, s' = { s₂ with heap := h', toks := tk } ∧ St i h' ∧ Fr h₀ env.locals h' m' ∧ News h₀ env.locals h' news' ∧ (∀ p ∈ news', p.1 ≠ I) ∧ J i m' news' ∧ i ≤ n ∧ k = n + 1 - i) ?_ (n + 1)
    ⟨s₂.heap, s₂.toks, m, news, 0, rfl, hst, F, N, hnI, hJ, Nat.zero_le _, rfl⟩ (ht _)
  rintro k s' ⟨h', tk, m', news', i, rfl, hst', F', N', hnw', hJ', hi, rfl⟩
  have next : ∀ h₁ : Heap, (∀ b o, b ∉ [I] → h'.get? b = some o → h₁.get? b = some o) → Fr h₀ env.locals h₁ m' ∧ News h₀ env.locals h₁ news' := fun h₁ hk₁ =>
    ⟨⟨F'.ns.at' fun o e => hk₁ _ o (fun hm => hLI (List.mem_singleton.mp hm)) e, fun b o e => hk₁ b o (fun hm => by rw [List.mem_singleton.mp hm, hI] at e; cases e) (F'.keep b o e), F'.above⟩, fun p hp => ⟨hk₁ _ _ (fun hm => hnw' p hp (List.mem_singleton.mp hm)) (N' p hp).1, (N' p hp).2⟩⟩
  by_cases hlt : i < n
  · refine W.item i _ _ _ hlt hst' fun v h₁ tk₁ hP hst₁ hk₁ => ?_
    obtain ⟨F₁, N₁⟩ := next h₁ hk₁
    have Nown : News h₀ env.locals h₁ (ownOf h₀ fp h₁) := news_ownOf hLf
    obtain ⟨o, ho⟩ := hlive _ _ hst₁
    have hIo : (I, o) ∈ ownOf h₀ fp h₁ := mem_ownOf (W.sub I (List.mem_singleton.mpr rfl)) hI ho
    have N₂ : News h₀ env.locals h₁ (news' ++ ownOf h₀ fp h₁) := fun p hp => (List.mem_append.mp hp).elim (N₁ p) (Nown p)
    refine wpAny_passesOwn hE (wpAny_mono (turn i v m' news' h₁ tk₁ (ownOf h₀ fp h₁) hlt hP ⟨o, hIo⟩ hnw' ownOf_sub hJ' F₁ N₂) (fun _ s₃ h₃ => wpAny_passesOwn hE (wpAny_mono h₃ (fun f s₄ h₄ => ?_) fun _ _ e => e)) fun _ _ e => e)
    have fin : EndW h₀ env.locals I (J (i + 1)) (ownOf h₀ fp h₁) { s₂ with heap := h₁, toks := tk₁ } s₄ → ∃ m_1, m_1 < n + 1 - i ∧ ∃ h' tk m' news' i, s₄ = { s₂ with heap := h', toks := tk } ∧ St i h' ∧ Fr h₀ env.locals h' m' ∧ News h₀ env.locals h' news' ∧ (∀ p ∈ news', p.1 ≠ I) ∧ J i m' news' ∧ i ≤ n ∧ m_1 = n + 1 - i := by
      rintro ⟨h₄', tk₄, m₄, news₄, nx, rfl, F₄, N₄, hn₄, ho₄, ha₄, hJ₄⟩
      refine ⟨n + 1 - (i + 1), by omega, h₄', tk₄, m₄, nx, i + 1, rfl, ?_, F₄, fun p hp => N₄ p (hn₄ p hp), ha₄, hJ₄, hlt, rfl⟩
      refine W.frame _ _ _ hst₁ fun b hb o e => ?_
      cases hn : h₀.get? b with
      | some o₀ =>
        have : o₀ = o := by have := F₁.keep b o₀ hn; rw [e] at this; exact (Option.some.inj this).symm
        exact this ▸ F₄.keep b o₀ hn
      | none => exact (N₄ _ (ho₄ _ (mem_ownOf hb hn e))).1
    cases f with
    | ret v => exact h₄
    | brk => exact h₄
    | cont => exact fin h₄
    | next => exact fin h₄
  · have hin : i = n := by omega
    subst hin
    refine W.done _ _ _ hst' fun h₁ tk₁ hk₁ => wpAny_execs_nil ?_
    obtain ⟨F₁, N₁⟩ := next h₁ hk₁
    exact hR h₁ tk₁ m' news' F₁ N₁ hJ'

theorem iterT_str {xt : Str} {tx : Tok} {m₀ : Str → Option Value} {news : List (Addr × Obj)} (J : Nat → (Str → Option Value) → List (Addr × Obj) → Prop)
    (hh : A.handled = none) (F : Fr h₀ env.locals s.heap m₀) (N : News h₀ env.locals s.heap news) (hj : J 0 m₀ news)
    (turn : ∀ I i c t m₁ news₁ h tk own, xt.cps[i]? = some c → (∃ o, (I, o) ∈ own) → (∀ q ∈ news₁, q.1 ≠ I) → (∀ p ∈ own, p.1 = I) → J i m₁ news₁ → Fr h₀ env.locals h m₁ → News h₀ env.locals h (news₁ ++ own) →
      wpAny (model prog w) A (assign target env (.str ⟨#[c]⟩ t)) (fun _ s₃ => wpAny (model prog w) A (execs body env) (PostW h₀ env.locals I (J (i + 1)) own { s with heap := h, toks := tk } Q) E s₃) E { s with heap := h, toks := tk })
    (done : ∀ m₁ news₁ h tk, J xt.cps.size m₁ news₁ → Fr h₀ env.locals h m₁ → News h₀ env.locals h news₁ → Q .next { s with heap := h, toks := tk }) :
    wpAny (model prog w) A (pyIter (.str xt tx)) (fun it s₂ => LoopT prog w A h₀ env target body Q E it s₂) E s := by
  have main : ∀ (o : Obj) (St : Nat → Heap → Prop), Walks prog w A s.heap.objs.size [s.heap.objs.size] [s.heap.objs.size] xt.cps.size (SignAt xt) St → (∀ i h, St i h → ∃ o, h.get? s.heap.objs.size = some o) → St 0 (s.heap.push o) →
      LoopT prog w A h₀ env target body Q E (.ref s.heap.objs.size) { s with heap := s.heap.push o } := by
    intro o St W hlive hst
    refine ⟨_, _, _, _, St, m₀, news, J, rfl, W, hlive, ?_, next_is_new F, ?_, hst, F.push _, (fun p hp => ⟨Heap.get?_push_of_some _ (N p hp).1, (N p hp).2⟩), hj, ?_, ?_⟩
    · intro hm; exact absurd F.ns.lt ((List.mem_singleton.mp hm) ▸ Nat.lt_irrefl _)
    · intro q hq e; exact absurd (Heap.lt_size (N q hq).1) (e ▸ Nat.lt_irrefl _)
    · rintro i v m₁ news₁ h tk own hin ⟨c, u, hc, rfl⟩ hIo hq ho hJ F₁ N₁
      exact turn _ i c u m₁ news₁ h tk own hc hIo hq (fun p hp => List.mem_singleton.mp (ho p hp)) hJ F₁ N₁
    · intro h tk m₁ news₁ F₁ N₁ hJ; exact done m₁ news₁ h tk hJ F₁ N₁
  cases ha : xt.cps.all (· < 128)
  · exact wpAny_pyIter_wide ha (main _ _ (Walks.strWide hh _ xt tx) (fun i h st => let ⟨o, ho, _⟩ := st; ⟨o, ho⟩) ⟨_, Heap.get?_push_size _ rfl, rfl, rfl⟩)
  · exact wpAny_pyIter_ascii ha (main _ _ (Walks.strAscii hh _ xt tx) (fun i h st => let ⟨o, ho, _⟩ := st; ⟨o, ho⟩) ⟨_, Heap.get?_push_size _ rfl, rfl, rfl⟩)
end
end Mine
end
theorem Mine.quietC8 : True := by
  w_top off
  trivial
section -- C8
namespace Mine
open LCg LCt
theorem off1_mem {D : Addr} : ∀ {l : List (Addr × Obj)}, Off1 D l → ∀ p ∈ l, p.1 ≠ D
  | [], _, _, h => nomatch h
  | _ :: _, x, p, h => by
    rcases List.mem_cons.mp h with rfl | h
    · exact x.1
    · exact off1_mem x.2 p h
def ItemEnd (h₀ : Heap) (L : Addr) (m : Str → Option Value) (led : List (Addr × Obj)) (P : Prop) (s s' : Shared) : Prop := ∃ h' tk', s' = { s with heap := h', toks := tk' } ∧ Fr h₀ L h' m ∧ News h₀ L h' led ∧ P
theorem itemEnd {h₀ h' : Heap} {L : Addr} {m : Str → Option Value} {led all : List (Addr × Obj)} {P : Prop} {s : Shared} {tk' : Nat} (F : Fr h₀ L h' m) (N : News h₀ L h' all) (sub : ∀ p ∈ led, p ∈ all) (p : P) : ItemEnd h₀ L m led P s { s with heap := h', toks := tk' } := ⟨h', tk', rfl, F, fun q hq => N q (sub q hq), p⟩
section
variable {prog : Program} {w : World} {A : Around} {s : Shared} {h₀ : Heap} {L : Addr} {m : Str → Option Value} {env : Env}
/-- a comprehension by what holds of the items made so far; the ledger is the same behind each item -/
theorem compU_inv {elt : Expr} {x : Str} {scope : Scope} {cl : List (Str × Addr)} {S : List (Addr × Obj) → Prop} {P : Nat → Value → Prop} {Fin : List Value → List (Addr × Obj) → Prop} {n : Nat} {news : List (Addr × Obj)} (Acc : Nat → List Value → Prop) (hS : S news)
    (step : ∀ i ys v I oI C oC D m₂ h tk (E' : Value → Shared → Prop), i < n → Acc i ys → P i v → NsObj oC m₂ → m₂ x = some v → Fr h₀ L h m → News h₀ L h ((I, oI) :: (C, oC) :: (D, lst ys) :: news) → Off3 I C D news → ((@Ne Nat I C) ∧ (@Ne Nat I D) ∧ (@Ne Nat C D)) →
      wpAny (model prog w) A (eval elt (compEnvC scope cl C env)) (fun y s' => ItemEnd h₀ L m ((I, oI) :: (C, oC) :: (D, lst ys) :: news) (Acc (i + 1) (ys ++ [y])) s s') E' { s with heap := h, toks := tk })
    (fin : ∀ ys, Acc n ys → Fin ys news) : ∀ k i ys, i + k = n → Acc i ys → CompRest prog w A h₀ L m env elt x scope cl s S P Fin k i ys news
  | 0, i, ys, e, ha => CompRest.zero (fin ys (by have : i = n := by omega
                                                 exact this ▸ ha))
  | k + 1, i, ys, e, ha => CompRest.succ fun v I oI C oC D m₂ h tk E' hP hC hx F N off ne =>
      wpAny_mono (step i ys v I oI C oC D m₂ h tk E' (by omega) ha hP hC hx F N off ne) (fun y s' hq => by
        obtain ⟨h', tk', rfl, F', N', ha'⟩ := hq
        exact CompEnd.intro F' N' news (fun p hp => hp) off hS (compU_inv Acc hS step fin k (i + 1) _ (by omega) ha')) fun _ _ e => e
theorem compT_inv {ct elt : Expr} {x : Str} {scope : Scope} {cl : List (Str × Addr)} {S : List (Addr × Obj) → Prop} {P : Nat → Value → Prop} {Fin : List Value → List (Addr × Obj) → Prop} {n : Nat} {news : List (Addr × Obj)} (Acc : Nat → List Value → Prop) (hS : S news)
    (step : ∀ i ys v I oI C oC D m₂ h tk (E' : Value → Shared → Prop), i < n → Acc i ys → P i v → NsObj oC m₂ → m₂ x = some v → Fr h₀ L h m → News h₀ L h ((I, oI) :: (C, oC) :: (D, lst ys) :: news) → Off3 I C D news → ((@Ne Nat I C) ∧ (@Ne Nat I D) ∧ (@Ne Nat C D)) →
      wpAny (model prog w) A (isTrue ct (compEnvC scope cl C env) (eval ct (compEnvC scope cl C env))) (fun ok s' => if ok = true then
        wpAny (model prog w) A (eval elt (compEnvC scope cl C env)) (fun y s' => ItemEnd h₀ L m ((I, oI) :: (C, oC) :: (D, lst ys) :: news) (Acc (i + 1) (ys ++ [y])) s s') E' s'
        else ItemEnd h₀ L m ((I, oI) :: (C, oC) :: (D, lst ys) :: news) (Acc (i + 1) ys) s s') E' { s with heap := h, toks := tk })
    (fin : ∀ ys, Acc n ys → Fin ys news) : ∀ k i ys, i + k = n → Acc i ys → CompRestT prog w A h₀ L m env ct elt x scope cl s S P Fin k i ys news
  | 0, i, ys, e, ha => CompRestT.zero (fin ys (by have : i = n := by omega
                                                  exact this ▸ ha))
  | k + 1, i, ys, e, ha => CompRestT.succ fun v I oI C oC D m₂ h tk E' hP hC hx F N off ne =>
      wpAny_mono (step i ys v I oI C oC D m₂ h tk E' (by omega) ha hP hC hx F N off ne) (fun ok s' hq => by
        cases ok with
        | true =>
          simp only [if_true] at hq ⊢
          exact wpAny_mono hq (fun y s' hq => by
            obtain ⟨h', tk', rfl, F', N', ha'⟩ := hq
            exact CompEnd.intro F' N' news (fun p hp => hp) off hS (compT_inv Acc hS step fin k (i + 1) _ (by omega) ha')) fun _ _ e => e
        | false =>
          simp only [Bool.false_eq_true, if_false] at hq ⊢
          obtain ⟨h', tk', rfl, F', N', ha'⟩ := hq
          exact CompEnd.intro F' N' news (fun p hp => hp) off hS (compT_inv Acc hS step fin k (i + 1) _ (by omega) ha')) fun _ _ e => e
end
end Mine
end
theorem Mine.quietC5 : True := by
  w_top off
  trivial
section -- C5
namespace Mine
theorem runG_cons (mark : Str) (nm : List Nat) (x : Item) (r : List Item) (i : Int) : runG mark nm (x :: r) i = if stepF mark nm i x = 0 then -1 else runG mark nm r (i + stepF mark nm i x) := rfl
set_option maxHeartbeats 8000000 in
theorem run_tells (prog : Program) (w : World) (p : Program) (loose : List Str) (mean : ExcName → Option Value) (mg mb : Str → Option Value) (mk nm : List Nat) (xs : List Item) (at_ : Int) (t0 t1 t2 t3 : Tok)
    (h0 : 0 ≤ at_) (h1 : at_ ≤ nm.length) (hn : nm.length ≤ 1000) (hx : xs.length ≤ 100) (hm : MarkOk mk xs) :
    Tells prog w p loose mean mg mb 111 [.str (tx (encE mk xs)) t0, .str (tx mk) t1, .str (tx nm) t2, .int at_ t3] 2 (fun t => .int (runG (tx mk) nm xs at_) t) := by
  obtain ⟨m0, mr, emk, hm92, hmk, hlit⟩ := hm
  have hmk1 : 1 ≤ mk.length := by rw [emk]; simp
  have hlr : (tx (encE mk xs)).length ≤ 100000 := by have := encE_len mk hmk xs; rw [tx_len]; omega
  have hlm : (tx mk).length ≤ 1000 := by rw [tx_len]; omega
  have hln : (tx nm).length ≤ 1000 := by rw [tx_len]; omega
  generalize hrun : tx (encE mk xs) = run at hlr ⊢
  generalize hmark : tx mk = mark at hlm ⊢
  generalize hname : tx nm = name at hln ⊢
  refine fillT ?_
  k_fill
  intro _
  unfold Tells
  intro dp un gd cn cs a ccd cl outer A₀ base h₀ L m news s Q E B F X N T hk hd hu hret
  refine wpAny_call ?_
  k_dflt cell_enter
  (rename Fr _ _ _ (fun y => List.lookup y _) => lF')
  (have lF2 := fr_clean [(Str.ofString "at", Value.int at_ t3), (Str.ofString "name", Value.str name t2), (Str.ofString "mark", Value.str mark t1), (Str.ofString "run", Value.str run t0)] (by with_unfolding_all rfl) lF')
  clear lF'
  k_steps
  unfold StopHere
  (rename Fr _ _ _ _ => lF'); (rename News _ _ _ _ => lN')
  with_unfolding_all refine' ksw_while (σ := Nat × Int × Tok × Tok) (fun _ => news) (fun c => [(Str.ofString "k", Value.int ((encE mk (xs.take c.1)).length : Int) c.2.2.1), (Str.ofString "at", Value.int c.2.1 c.2.2.2)]) (fun _ => True) [Str.ofString "size"] (fun c => c.1 ≤ xs.length ∧ 0 ≤ c.2.1 ∧ c.2.1 ≤ nm.length ∧ runG mark nm xs at_ = runG mark nm (xs.drop c.1) c.2.1) (fun c => xs.length - c.1) (0, at_, _, _) lF' lN' trivial ?hk ?hp ?turn
  case hk => kst_all
  case hp => exact ⟨Nat.zero_le _, h0, h1, by simp⟩
  case turn =>
    intro c u h tk _ hP kF kN
    obtain ⟨j, i, tk1, tk2⟩ := c
    dsimp only at hP kF kN ⊢
    clear lF' lN'
    obtain ⟨hj, hi0, hi1, hG⟩ := hP
    have hkl : (encE mk (xs.take j)).length ≤ run.length := by
      rw [← hrun, tx_len]; have := encE_split mk xs j; rw [this, List.length_append]; omega
    have hdr := drop_enc mk xs j
    have hsl : ∀ n, Txt.slice run (some ((encE mk (xs.take j)).length : Int)) (some (((encE mk (xs.take j)).length : Int) + (n : Nat))) = tx ((encE mk (xs.drop j)).take n) := by
      intro n; rw [← hrun, sl_nat _ _ n rfl, hdr]
    have hnl : (name.length : Int) = nm.length := by rw [← hname, tx_len]
    have hml : mark.length = mk.length := by rw [← hmark, tx_len]
    rcases Nat.lt_or_ge j xs.length with hlt | hge
    · obtain ⟨x, hx'⟩ : ∃ x, xs[j]? = some x := ⟨xs[j], by simp [hlt]⟩
      have hdi := drop_item hx'
      have hts := enc_take_succ mk xs hx'
      rw [hdi, encE_cons] at hsl hdr
      have hkr : (((encE mk (xs.take j)).length : Nat) : Int) < (run.length : Int) := by
        have hh := congrArg List.length hdr
        rw [List.length_drop, List.length_append] at hh
        have h2 := (itemE_len mk x hmk1 hmk).1
        have h3 : run.length = (encE mk xs).length := by rw [← hrun, tx_len]
        omega
      rw [hdi, runG_cons] at hG
      cases x with
      | none =>
        have hs1 : (Txt.slice run (some ((encE mk (xs.take j)).length : Int)) (some (((encE mk (xs.take j)).length : Int) + (mark.length : Nat))) == mark) = true := by
          rw [hsl, hml, ← hmark]; simp [itemE]
        generalize hk : (encE mk (xs.take j)).length = k at hkl hkr kF hs1 hts ⊢
        k_steps
        · refine' tells_use ?k1 ?k2 ?k3 ?k4 ?k5 ?kK (one_tells prog w p loose mean mg mb mark name i _ _ _ hi0 (by omega) hln) ?kd ?ku ?_; (case k1 => k_asm); (case k2 => k_asm); (case k3 => k_asm); (case k4 => k_asm); (case k5 => k_asm); (case kK => first | exact rfl | assumption); (case kd => ktr_room); (case ku => ktr_units)
          intro t9 h9 tk9 F9 N9
          (try dsimp only)
          (try k_fold)
          have hstep : stepF mark nm i none = oneF mark name i := by rw [← hname]; rfl
          have hbd := oneF_bd mark nm i hi0 hi1
          rw [hname] at hbd
          rw [hstep] at hG
          generalize oneF mark name i = z at hG hbd ⊢
          k_steps
          · refine cb_retI hret ?_ (by assumption) (cb_drop (by assumption) (by (intro p9 h9; first | exact h9 | kst_mem | (simp only [List.mem_cons, List.mem_append]; simp [h9]))))
            (rename z = 0 => hz)
            rw [hG, if_pos hz]
          · (rename Fr _ _ _ _ => lF'); (rename News _ _ _ _ => lN')
            (rename z ≠ 0 => hz)
            have e1 : ((k : Int) + (mark.length : Int)) = ((encE mk (xs.take (j + 1))).length : Int) := by rw [hts, List.length_append, hk, hml]; simp [itemE]
            rw [e1] at lF'
            rw [if_neg hz] at hG
            exact ksw_end (⟨j + 1, i + z, _, _⟩ : Nat × Int × Tok × Tok) lF' lN' (fun _ h => h) trivial (by kst_all) (by (intro z h2 h3; (try simp at h2); (try simp at h3); simp [h2, h3, kstB])) ⟨hlt, (by show (0 : Int) ≤ i + z; omega), hbd.2, hG⟩ (by show xs.length - (j + 1) < xs.length - j; omega)
      | some c =>
        have hc := hlit c (List.mem_of_getElem? hx')
        have hmne : ∀ l : List Nat, (tx ((litE c ++ l).take mark.length) == mark) = false := by
          intro l
          rw [← hmark, tx_beq, tx_len, emk]
          unfold litE
          split
          · simp; intro h; exact absurd h.symm hm92
          · rename_i hsp
            have : c ≠ m0 := by rcases hc.2 with h | h | h; exact absurd (.inl h) hsp; exact absurd (.inr h) hsp; exact h
            simp; intro h; exact absurd h this
        have hs1 : (Txt.slice run (some ((encE mk (xs.take j)).length : Int)) (some (((encE mk (xs.take j)).length : Int) + (mark.length : Nat))) == mark) = false := by
          rw [hsl]; exact hmne _
        have hfin : ∀ d, nm[i.toNat]? = some d → Txt.item name i = tx [d] := fun d hd => by rw [← hname]; exact it_nat nm hi0 hd
        have hst : stepF mark nm i (some c) = if nm[i.toNat]? = some c then 1 else 0 := rfl
        rw [hst] at hG
        by_cases hsp : c = 38 ∨ c = 46
        · have hle : itemE mk (some c) = [92, c] := by simp [itemE, litE, hsp]
          rw [hle] at hts hdr hsl
          have hat : (encE mk xs)[(encE mk (xs.take j)).length]? = some 92 := by
            rw [← List.head?_drop, hdr]; rfl
          have hs2 : (Txt.item run ((encE mk (xs.take j)).length : Int) == Str.ofString "\\") = true := by
            have e0 : Str.ofString "\\" = tx [92] := by decide +kernel
            rw [← hrun, it_nat (encE mk xs) (by omega) (by simpa using hat), e0]; simp
          have hs3 : Txt.slice run (some (((encE mk (xs.take j)).length : Int) + 1)) (some (((encE mk (xs.take j)).length : Int) + 1 + 1)) = tx [c] := by
            have e0 : ((((encE mk (xs.take j)).length : Nat) : Int) + 1) = (((encE mk (xs.take j)).length + 1 : Nat) : Int) := by omega
            rw [← hrun, e0, sl_nat _ _ 1 (by omega), ← List.drop_drop, hdr]; simp
          generalize hk : (encE mk (xs.take j)).length = k at hkl hkr kF hs1 hs2 hs3 hts ⊢
          have e1 : ((k : Int) + 1 + 1) = ((encE mk (xs.take (j + 1))).length : Int) := by rw [hts, List.length_append, hk]; simp; omega
          k_steps
          · (rename Fr _ _ _ _ => lF'); (rename News _ _ _ _ => lN')
            rw [e1] at lF'
            (rename i < (name.length : Int) => hil)
            (rename (Txt.item name i == _) = true => heq)
            obtain ⟨d, hd⟩ : ∃ d, nm[i.toNat]? = some d := ⟨nm[i.toNat]'(by omega), by rw [List.getElem?_eq_getElem]⟩
            rw [hfin d hd, hs3, tx_beq] at heq
            have hdc : d = c := by simpa using heq
            rw [hd, hdc, if_pos rfl, if_neg (by decide)] at hG
            exact ksw_end (⟨j + 1, i + 1, _, _⟩ : Nat × Int × Tok × Tok) lF' lN' (fun _ h => h) trivial (by kst_all) (by (intro z h2 h3; (try simp at h2); (try simp at h3); simp [h2, h3, kstB])) ⟨hlt, (by show (0 : Int) ≤ i + 1; omega), (by show i + 1 ≤ (nm.length : Int); omega), hG⟩ (by show xs.length - (j + 1) < xs.length - j; omega)
          · refine cb_retI hret ?_ (by assumption) (cb_drop (by assumption) (by (intro p9 h9; first | exact h9 | kst_mem | (simp only [List.mem_cons, List.mem_append]; simp [h9]))))
            (rename i < (name.length : Int) => hil)
            (rename (Txt.item name i == _) = false => heq)
            obtain ⟨d, hd⟩ : ∃ d, nm[i.toNat]? = some d := ⟨nm[i.toNat]'(by omega), by rw [List.getElem?_eq_getElem]⟩
            rw [hfin d hd, hs3, tx_beq] at heq
            have hdc : ¬ nm[i.toNat]? = some c := by rw [hd]; intro h; rw [Option.some.inj h] at heq; simp at heq
            rw [if_neg hdc, if_pos rfl] at hG
            rw [hG]
          · refine cb_retI hret ?_ (by assumption) (cb_drop (by assumption) (by (intro p9 h9; first | exact h9 | kst_mem | (simp only [List.mem_cons, List.mem_append]; simp [h9]))))
            (rename ¬ i < (name.length : Int) => hil)
            have hdc : ¬ nm[i.toNat]? = some c := by rw [List.getElem?_eq_none (by omega)]; exact fun h => nomatch h
            rw [if_neg hdc, if_pos rfl] at hG
            rw [hG]
        · have hle : itemE mk (some c) = [c] := by simp [itemE, litE, hsp]
          rw [hle] at hts hdr hsl
          have hat : (encE mk xs)[(encE mk (xs.take j)).length]? = some c := by
            rw [← List.head?_drop, hdr]; rfl
          have hs2 : (Txt.item run ((encE mk (xs.take j)).length : Int) == Str.ofString "\\") = false := by
            have e0 : Str.ofString "\\" = tx [92] := by decide +kernel
            rw [← hrun, it_nat (encE mk xs) (by omega) (by simpa using hat), e0, tx_beq]; simpa using hc.1
          have hs3 : Txt.slice run (some (((encE mk (xs.take j)).length : Int))) (some (((encE mk (xs.take j)).length : Int) + 1)) = tx [c] := by
            rw [← hrun, sl_nat _ _ 1 (by omega), hdr]; simp
          generalize hk : (encE mk (xs.take j)).length = k at hkl hkr kF hs1 hs2 hs3 hts ⊢
          have e1 : ((k : Int) + 1) = ((encE mk (xs.take (j + 1))).length : Int) := by rw [hts, List.length_append, hk]; simp
          k_steps
          · (rename Fr _ _ _ _ => lF'); (rename News _ _ _ _ => lN')
            rw [e1] at lF'
            (rename i < (name.length : Int) => hil)
            (rename (Txt.item name i == _) = true => heq)
            obtain ⟨d, hd⟩ : ∃ d, nm[i.toNat]? = some d := ⟨nm[i.toNat]'(by omega), by rw [List.getElem?_eq_getElem]⟩
            rw [hfin d hd, hs3, tx_beq] at heq
            have hdc : d = c := by simpa using heq
            rw [hd, hdc, if_pos rfl, if_neg (by decide)] at hG
            exact ksw_end (⟨j + 1, i + 1, _, _⟩ : Nat × Int × Tok × Tok) lF' lN' (fun _ h => h) trivial (by kst_all) (by (intro z h2 h3; (try simp at h2); (try simp at h3); simp [h2, h3, kstB])) ⟨hlt, (by show (0 : Int) ≤ i + 1; omega), (by show i + 1 ≤ (nm.length : Int); omega), hG⟩ (by show xs.length - (j + 1) < xs.length - j; omega)
          · refine cb_retI hret ?_ (by assumption) (cb_drop (by assumption) (by (intro p9 h9; first | exact h9 | kst_mem | (simp only [List.mem_cons, List.mem_append]; simp [h9]))))
            (rename i < (name.length : Int) => hil)
            (rename (Txt.item name i == _) = false => heq)
            obtain ⟨d, hd⟩ : ∃ d, nm[i.toNat]? = some d := ⟨nm[i.toNat]'(by omega), by rw [List.getElem?_eq_getElem]⟩
            rw [hfin d hd, hs3, tx_beq] at heq
            have hdc : ¬ nm[i.toNat]? = some c := by rw [hd]; intro h; rw [Option.some.inj h] at heq; simp at heq
            rw [if_neg hdc, if_pos rfl] at hG
            rw [hG]
          · refine cb_retI hret ?_ (by assumption) (cb_drop (by assumption) (by (intro p9 h9; first | exact h9 | kst_mem | (simp only [List.mem_cons, List.mem_append]; simp [h9]))))
            (rename ¬ i < (name.length : Int) => hil)
            have hdc : ¬ nm[i.toNat]? = some c := by rw [List.getElem?_eq_none (by omega)]; exact fun h => nomatch h
            rw [if_neg hdc, if_pos rfl] at hG
            rw [hG]
    · have hjl : j = xs.length := by omega
      subst hjl
      have hkr : ¬ ((((encE mk (xs.take xs.length)).length : Nat) : Int) < (run.length : Int)) := by rw [List.take_length, ← hrun, tx_len]; omega
      rw [List.drop_length] at hG
      generalize hk : (encE mk (xs.take xs.length)).length = k at hkl hkr kF ⊢
      k_steps
      refine cb_retI hret ?_ (by assumption) (cb_drop (by assumption) (by (intro p9 h9; first | exact h9 | kst_mem | (simp only [List.mem_cons, List.mem_append]; simp [h9]))))
      rw [hG]; rfl
end Mine
end
theorem Mine.quietC6 : True := by
  w_top off
  trivial
section -- C6
namespace Mine
set_option maxHeartbeats 8000000 in
theorem takes_tells (prog : Program) (w : World) (p : Program) (loose : List Str) (mean : ExcName → Option Value) (mg mb : Str → Option Value) (text : Str) (mk nm : List Nat) (seg0 last : List Item) (mids : List (List Item)) (t0 t1 t2 t3 : Tok)
    (hlt : text.length ≤ 100000) (hn : nm.length ≤ 1000) (hm0 : MarkOk mk seg0) (hmL : MarkOk mk last) (hmM : ∀ m ∈ mids, MarkOk mk m ∧ m.length ≤ 100) (hx0 : seg0.length ≤ 100) (hxL : last.length ≤ 100) (hmids : mids.length ≤ 100)
    (hA : (Txt.slice text none (some 4) != Str.ofString "(?s:") = false)
    (hB : (Txt.slice text (some (-3)) none != Str.ofString ")\\Z") = false)
    (hC : ¬ Txt.rfind (Txt.slice text (some 4) (some (-3))) (Str.ofString ".*") < 0)
    (hL : Txt.slice (Txt.slice text (some 4) (some (-3))) (some (Txt.rfind (Txt.slice text (some 4) (some (-3))) (Str.ofString ".*") + 2)) none = tx (encE mk last))
    (hS : Txt.split (Txt.slice (Txt.slice text (some 4) (some (-3))) none (some (Txt.rfind (Txt.slice text (some 4) (some (-3))) (Str.ofString ".*")))) (Str.ofString "(?>.*?") = tx (encE mk seg0) :: mids.map fun m => tx (encE mk m ++ [41])) :
    Tells prog w p loose mean mg mb 118 [.str text t0, .str (tx mk) t1, .str (tx nm) t2] 3 (fun t => .bool (takesG (tx mk) nm seg0 mids last)) := by
  have hmk : mk.length ≤ 40 := by obtain ⟨_, _, _, _, h, _⟩ := hm0; exact h
  have hlm : (tx mk).length ≤ 1000 := by rw [tx_len]; omega
  have hln : (tx nm).length ≤ 1000 := by rw [tx_len]; omega
  generalize hmark : tx mk = mark at hlm ⊢
  generalize hname : tx nm = name at hln ⊢
  refine fillT ?_
  k_fill
  intro _
  unfold Tells
  intro dp un gd cn cs a ccd cl outer A₀ base h₀ L m news s Q E B F X N T hk hd hu hret
  refine wpAny_call ?_
  k_dflt cell_enter
  (rename Fr _ _ _ (fun y => List.lookup y _) => lF')
  (have lF2 := fr_clean [(Str.ofString "name", Value.str name t2), (Str.ofString "mark", Value.str mark t1), (Str.ofString "text", Value.str text t0)] (by with_unfolding_all rfl) lF')
  clear lF'
  k_steps
  · (rename (Txt.slice text none (some 4) != _) = true => hbad); rw [hA] at hbad; cases hbad
  · (rename (Txt.slice text (some (-3)) none != _) = true => hbad); rw [hB] at hbad; cases hbad
  · (rename Txt.rfind _ _ < 0 => hbad); exact absurd hbad hC
  (rename List.map _ _ = Txt.split _ _ => hlook)
  (rename (List.map _ _)[Int.toNat 0]? = some _ => hy0)
  rw [hS] at hlook
  rw [hlook] at hy0
  have hy := Option.some.inj hy0
  subst hy
  refine' tells_use ?k1 ?k2 ?k3 ?k4 ?k5 ?kK ((hmark ▸ hname ▸ run_tells prog w p loose mean mg mb mk nm seg0 0 _ _ _ _ (by omega) (by omega) hn hx0 hm0)) ?kd ?ku ?_; (case k1 => k_asm); (case k2 => k_asm); (case k3 => k_asm); (case k4 => k_asm); (case k5 => k_asm); (case kK => first | exact rfl | assumption); (case kd => ktr_room); (case ku => ktr_units)
  intro t9 h9 tk9 F9 N9
  (try dsimp only)
  (try k_fold)
  k_steps
  unfold StopHere
  (rename Fr _ _ _ _ => lF'); (rename News _ _ _ _ => lN')
  refine For_invVF lF' (by rfl) (by rfl) ?_
  k_steps
  unfold StopHere
  clear lF' lN'
  (rename Fr _ _ _ _ => lF'); (rename News _ _ _ _ => lN')
  (rename List (Str × Tok) => l)
  have hp0 := runG_bd mark nm seg0 0 (by omega) (by omega)
  have hlen : ((strValues l).drop 1).length = mids.length := by
    have := congrArg List.length hlook
    simp [strValues] at this ⊢; omega
  with_unfolding_all refine' iterS_list (σ := Int × Tok) (vs := (strValues l).drop 1) (fun _ => news) (fun c => [(Str.ofString "place", Value.int c.1 c.2)]) [Str.ofString "begin"] (fun i c => c.1 = midsG mark nm (mids.take i) (runG mark nm seg0 0)) (runG mark nm seg0 0, _) (by rfl) ?hl ?hlL lF' ?N ?hk ?hp ?turn ?done
  case hl => exact ⟨_, (lN' _ (List.mem_cons_self ..)).1, rfl, _, by rw [← pick_from1]⟩
  case hlL => exact (lN' _ (List.mem_cons_self ..)).2.1
  case N => exact (cb_drop lN' (by (intro p9 h9; first | exact h9 | kst_mem | (simp only [List.mem_cons, List.mem_append]; simp [h9]))))
  case hk => kst_all
  case hp => rfl
  case turn =>
    intro I i v c u h tk own hv hIo hq hP kF kN
    obtain ⟨old, tko⟩ := c
    dsimp only at hP kF kN ⊢
    clear lF' lN'
    rw [List.getElem?_drop] at hv
    obtain ⟨xt, tx1, hxt, rfl⟩ := strValues_get hlook hv
    rw [Nat.add_comm, List.getElem?_cons_succ, List.getElem?_map] at hxt
    obtain ⟨mm, hmm, rfl⟩ := Option.map_eq_some_iff.mp hxt
    have hmS := hmM mm (List.mem_of_getElem? hmm)
    have hml := encE_len mk hmk mm
    have hpl : (tx (encE mk mm ++ [41])).length ≤ 100000 := by rw [tx_len, List.length_append]; simp; omega
    have hE1 := part_last (encE mk mm)
    have hE2 := part_cut (encE mk mm)
    generalize hpart : tx (encE mk mm ++ [41]) = part at hpl hE1 hE2 kF hxt hv ⊢
    k_steps
    · (rename (Txt.slice part (some (-1)) none != _) = true => hbad); rw [hE1] at hbad; cases hbad
    unfold StopHere
    (rename Fr _ _ _ _ => lF'); (rename News _ _ _ _ => lN')
    have hold : old = -1 ∨ (0 ≤ old ∧ old ≤ nm.length) := by rw [hP]; exact midsG_bd mark nm _ _ hp0
    have hnl : (name.length : Int) = nm.length := by rw [← hname, tx_len]
    with_unfolding_all refine' ksw_while (σ := Int × Int × Tok × Tok) (fun _ => news ++ own) (fun c => [(Str.ofString "begin", Value.int c.1 c.2.2.1), (Str.ofString "place", Value.int c.2.1 c.2.2.2)]) (fun _ => True) [] (fun c => ((c.2.1 = -1 ∧ srch mark nm mm old = srch mark nm mm c.1) ∨ (0 ≤ c.2.1 ∧ c.2.1 ≤ nm.length ∧ srch mark nm mm old = c.2.1)) ∧ c.1 ≤ nm.length + 1) (fun c => if c.2.1 < 0 then ((nm.length : Int) + 2 - c.1).toNat else 0) (old, -1, _, _) lF' lN' trivial ?hk ?hp ?turn
    case hk => kst_all
    case hp => exact ⟨.inl ⟨rfl, rfl⟩, by rcases hold with h | h <;> omega⟩
    case turn =>
      intro c u2 h2 tk2 _ hP2 kF2 kN2
      obtain ⟨b, pl, tb, tp⟩ := c
      dsimp only at hP2 kF2 kN2 ⊢
      clear lF' lN'
      obtain ⟨hP2, hb1⟩ := hP2
      k_steps
      · rw [hE2]
        (rename (0 : Int) ≤ b => hb0)
        (rename b ≤ (name.length : Int) => hbl)
        (rename pl < 0 => hpl0)
        rw [hnl] at hbl
        refine' tells_use ?k1 ?k2 ?k3 ?k4 ?k5 ?kK ((hmark ▸ hname ▸ run_tells prog w p loose mean mg mb mk nm mm b _ _ _ _ hb0 hbl hn hmS.2 hmS.1)) ?kd ?ku ?_; (case k1 => k_asm); (case k2 => k_asm); (case k3 => k_asm); (case k4 => k_asm); (case k5 => k_asm); (case kK => first | exact rfl | assumption); (case kd => ktr_room); (case ku => ktr_units)
        intro t9 h9 tk9 F9 N9
        (try dsimp only)
        (try k_fold)
        have hrb := runG_bd mark nm mm b hb0 hbl
        have hss := srch_step mark nm mm hb0 hbl
        generalize runG mark nm mm b = z at hrb hss ⊢
        k_steps
        (rename Fr _ _ _ _ => lF'); (rename News _ _ _ _ => lN')
        have hq : srch mark nm mm old = srch mark nm mm b := by rcases hP2 with h | h; exact h.2; omega
        refine ksw_end (⟨b + 1, z, _, _⟩ : Int × Int × Tok × Tok) lF' lN' (fun _ h => h) trivial (by kst_all) (by (intro z h2 h3; (try simp at h2); (try simp at h3); simp [h2, h3, kstB])) ⟨?_, (by show b + 1 ≤ (nm.length : Int) + 1; omega)⟩ ?_
        · show (z = -1 ∧ srch mark nm mm old = srch mark nm mm (b + 1)) ∨ (0 ≤ z ∧ z ≤ nm.length ∧ srch mark nm mm old = z)
          rw [hq]
          rcases hrb with h | h
          · rw [if_pos (by omega)] at hss; exact .inl ⟨h, hss⟩
          · rw [if_neg (by omega)] at hss; exact .inr ⟨by omega, h.2, hss⟩
        · show (if z < 0 then ((nm.length : Int) + 2 - (b + 1)).toNat else 0) < (if pl < 0 then ((nm.length : Int) + 2 - b).toNat else 0)
          rw [if_pos hpl0]
          split <;> omega
      all_goals
        (rename Fr _ _ _ _ => lF'); (rename News _ _ _ _ => lN')
        refine endS (⟨pl, tp⟩ : Int × Tok) lF' lN' (fun p9 h9 => List.mem_append_left _ h9) (fun p9 h9 => List.mem_append_right _ h9) hq (by kst_all) (by (intro z h1 h2 h3; (try simp at h2); (try simp at h3); simp [h1, h2, h3, kstB])) ?_
        show pl = midsG mark nm (mids.take (i + 1)) (runG mark nm seg0 0)
        rw [midsG_take mark nm mids _ hmm, ← hP]
        rcases hP2 with h | h
        · rw [h.1, h.2]
          first
          | (rename ¬ ((0 : Int) ≤ b) => hb0; rw [srch_neg mark nm mm (by omega)]; done)
          | (rename ¬ (b ≤ (name.length : Int)) => hbl; rw [srch_past mark nm mm (by omega)]; done)
          | (rename ¬ (pl < 0) => hpl0; omega)
        · exact h.2.2.symm
  case done =>
    intro c u h tk hP kF kN
    obtain ⟨pl, tko⟩ := c
    dsimp only at hP kF kN ⊢
    clear lF' lN'
    rw [hlen, List.take_length] at hP
    k_steps
    · refine cb_retB hret ?_ (by assumption) (by assumption)
      (rename pl < 0 => hpl0)
      unfold takesG; rw [← hP, if_pos hpl0]
    unfold StopHere
    (rename Fr _ _ _ _ => lF'); (rename News _ _ _ _ => lN')
    refine For_invVF lF' (by rfl) (by rfl) ?_
    k_steps
    unfold StopHere
    (try clear lF' lN')
    have hnl : (name.length : Int) = nm.length := by rw [← hname, tx_len]
    (rename ¬ pl < 0 => hpl0)
    (rename Fr _ _ _ _ => lF'); (rename News _ _ _ _ => lN')
    (rename IsRange _ _ _ _ _ _ _ _ => hr)
    have hple : pl ≤ nm.length := by rcases midsG_bd mark nm mids _ hp0 with h | h <;> omega
    have hfin : takesG mark nm seg0 mids last = finG mark nm last pl := by unfold takesG; rw [← hP, if_neg hpl0]
    with_unfolding_all refine' iterS_range (σ := Unit) (n := (((name.length : Int) + 1) - pl).toNat) (fun _ => news) (fun _ => []) [] (fun i _ => ∀ j, j < i → runG mark nm last (pl + (j : Nat)) ≠ nm.length) () (by rfl) hr ?hs (range_len _ _) lF' ?N (by simp) (by (intro j hj; omega)) ?turn ?done
    case hs => exact small_one (by omega) (by omega) (by omega) (by omega)
    case N => exact (cb_drop lN' (by (intro p9 h9; first | exact h9 | kst_mem | (simp only [List.mem_cons, List.mem_append]; simp [h9]))))
    case turn =>
      intro I i t c u h tk own hi hIo hq hP1 kF kN
      clear lF' lN'
      k_steps
      rw [hL]
      refine' tells_use ?k1 ?k2 ?k3 ?k4 ?k5 ?kK ((hmark ▸ hname ▸ run_tells prog w p loose mean mg mb mk nm last (pl + (i : Nat)) _ _ _ _ (by omega) (by omega) hn hxL hmL)) ?kd ?ku ?_; (case k1 => k_asm); (case k2 => k_asm); (case k3 => k_asm); (case k4 => k_asm); (case k5 => k_asm); (case kK => first | exact rfl | assumption); (case kd => ktr_room); (case ku => ktr_units)
      intro t9 h9 tk9 F9 N9
      (try dsimp only)
      (try k_fold)
      k_steps
      · refine cb_retB hret ?_ (by assumption) (cb_drop (by assumption) (by (intro p9 h9; first | exact h9 | kst_mem | (simp only [List.mem_cons, List.mem_append]; simp [h9]))))
        (rename runG mark nm last (pl + (i : Nat)) = (name.length : Int) => hzz)
        rw [hfin]
        unfold finG
        symm
        rw [List.any_eq_true]
        exact ⟨i, List.mem_range.mpr (by omega), by rw [hzz, hnl]; simp⟩
      · (rename Fr _ _ _ _ => lF'); (rename News _ _ _ _ => lN')
        (rename runG mark nm last (pl + (i : Nat)) ≠ (name.length : Int) => hzz)
        refine endS () lF' lN' (fun p9 h9 => List.mem_append_left _ h9) (fun p9 h9 => List.mem_append_right _ h9) hq (by kst_all) (by (intro z h1 h2 h3; (try simp at h2); (try simp at h3); simp [h1, h2, h3, kstB])) ?_
        intro j hj
        rcases Nat.lt_or_ge j i with h | h
        · exact hP1 j h
        · have : j = i := by omega
          subst this
          rw [← hnl]; exact hzz
    case done =>
      intro c u h tk hP1 kF kN
      clear lF' lN'
      k_steps
      refine cb_retB hret ?_ (by assumption) (by assumption)
      rw [hfin]
      unfold finG
      symm
      rw [List.any_eq_false]
      intro j hj
      have := hP1 j (by have := List.mem_range.mp hj; omega)
      simpa using this
end Mine
end
theorem Mine.quietC7 : True := by
  w_top off
  trivial
section -- C7
open LCg LCt
namespace Mine
theorem in_ints {prog : Program} {w : World} {A : Around} {E : Value → Shared → Prop} {s : Shared} {l : Addr} {vs : List Value} {ns : List Int} {k : Int} {t : Tok} {Q : Value → Shared → Prop} (hl : s.heap.IsList l vs.toArray) (hi : IntsAre vs ns)
    (h : Q (.bool (ns.any (· == k))) s) : wpAny (model prog w) A (compareOp .In (.int k t) (.ref l)) Q E s := by
  refine SeqAt.in_listAt (fun v => match v with | .int a _ => a == k | _ => false) hl ?_ ?_
  · intro y hy
    obtain ⟨i, hy⟩ := List.getElem?_of_mem (show y ∈ vs by simpa using hy)
    have hlt : i < vs.length := by
      rcases Nat.lt_or_ge i vs.length with q | q
      · exact q
      · rw [List.getElem?_eq_none q] at hy; cases hy
    obtain ⟨u, hu⟩ := hi.get i (ns[i]'(by rw [← hi.length]; exact hlt)) (by simp)
    rw [hy] at hu
    rw [Option.some.inj hu]
    exact (PySem.MeetsSeq.EqGives.int _ _ _ _).at _ _
  · have e : ∀ {vs : List Value} {ns : List Int}, IntsAre vs ns → vs.any (fun v => match v with | .int a _ => a == k | _ => false) = ns.any (· == k) := by
      intro vs ns hi
      induction hi with
      | nil => rfl
      | cons n t _ ih => simp [ih]
    rw [List.any_toArray, e hi]
    exact h
/-- between the turns of _law_means' loop -/
def MeansJ (nm pat : List Nat) (c1 c2 : Addr) (o2 : Obj) (news : List (Addr × Obj)) (i : Nat) (m : Str → Option Value) (nx : List (Addr × Obj)) : Prop :=
  ∃ l vs ps nn o1, nx = (l, listOf vs.toArray nn) :: (c1, o1) :: (c2, o2) :: news ∧ IntsAre vs ps ∧ m (Str.ofString "places") = some (.ref l) ∧ (∃ v, o1.data = .cell v) ∧
    (@Ne Nat l c1) ∧ (@Ne Nat l c2) ∧ (∀ p ∈ news, @Ne Nat p.1 l) ∧ meansF nm pat [0] = meansF nm (pat.drop i) ps ∧ ps ≠ [] ∧ (∀ a ∈ ps, 0 ≤ a ∧ a ≤ nm.length) ∧ ps.length ≤ nm.length + 1
set_option maxHeartbeats 8000000 in
theorem means_tells (prog : Program) (w : World) (p : Program) (loose : List Str) (mean : ExcName → Option Value) (mg mb : Str → Option Value) (pat nm : List Nat) (t0 t1 : Tok)
    (hlp : pat.length ≤ 1000) (hn : nm.length ≤ 1000) :
    Tells prog w p loose mean mg mb 97 [.str (tx pat) t0, .str (tx nm) t1] 1 (fun t => .bool (meansF nm pat [0])) := by
  have hln : (tx nm).length ≤ 1000 := by rw [tx_len]; omega
  generalize hname : tx nm = name at hln ⊢
  refine fillT ?_
  k_fill
  intro _
  unfold Tells
  intro dp un gd cn cs a ccd cl outer A₀ base h₀ L m news s Q E B F X N T hk hd hu hret
  refine wpAny_call ?_
  k_dflt (refine' code_defC ?k1 ?k2 ?k3 ?k4 ?k5 ?kA ?kF ?kK ?k6 ?k7 ?k8 ?k9 ?kB ?kD ?_ ?c2 ?c3 ?c4; (case kA => exact rfl); (case kF => exact rfl); (case kK => assumption); (case k1 => k_asm); (case k2 => k_asm); (case k3 => k_asm); (case k4 => k_asm); (case k5 => k_asm); (case k6 => k_is); (case k7 => k_is); (case k8 => ktr_room); (case k9 => exact BindsTo.of_eq rfl); (case kB => exact rfl); (case kD => decide +kernel); (case c2 => exact rfl); (case c3 => exact rfl); (case c4 => exact rfl); k_whole; intro g' L' h' tk' cells' FG' F' N' Y' B' X' T' l1; obtain ⟨o1c, o2c, hEc, d1c, d2c⟩ := CellsAre.two Y'; subst hEc; (try simp only [List.cons_append, List.nil_append] at N'); (try dsimp only); (try k_lift B'); (try k_fold))
  k_steps
  unfold StopHere
  (rename Fr _ _ _ _ => lF'); (rename News _ _ _ _ => lN')
  refine For_T g' ?_
  k_steps
  unfold StopHere
  refine iterT_str (MeansJ nm pat (L' + 1 + 1) (L' + 1) o2c news) (by rfl) lF' lN' ?hj ?turn ?done
  case hj => exact ⟨_, _, [0], _, _, rfl, .cons _ _ .nil, rfl, ⟨_, d1c⟩, by omega, by omega, (by ((rename _ ∧ _ ∧ AllLt _ news => hlt9); exact fun q9 h9 => Nat.ne_of_lt (kst_ltOf hlt9.2.2 q9 h9))), by simp, by simp, by simp, by simp⟩
  case turn =>
    rintro I i c t m₁ _ h tk own hc hIo hq ho ⟨l, vs, ps, nn, o1, rfl, hI, hm1, ⟨v1, ho1⟩, hn1, hn2, hn3, hM, hps, hb, hlen⟩ kF kN
    clear lF' lN'
    have em : m₁ = fun z => if z = Str.ofString "places" then some (.ref l) else m₁ z := by
      funext z; split
      · rename_i hz; rw [hz]; exact hm1
      · rfl
    rw [em] at kF
    have d2n : o2c.data = Data.cell (some (Value.str name t1)) := d2c
    have hoff : OwnOff own [l, L' + 1 + 1, L' + 1] := by
      intro q9 h9 b h8 e9
      have e1 := ho q9 h9
      rcases List.mem_cons.mp h8 with rfl | h8
      · exact hq _ (List.mem_cons_self ..) (e9 ▸ e1)
      rcases List.mem_cons.mp h8 with rfl | h8
      · exact hq _ (List.mem_cons_of_mem _ (List.mem_cons_self ..)) (e9 ▸ e1)
      rcases List.mem_cons.mp h8 with rfl | h8
      · exact hq _ (List.mem_cons_of_mem _ (List.mem_cons_of_mem _ (List.mem_cons_self ..))) (e9 ▸ e1)
      · cases h8
    have hoffN : OwnOff news [L' + 1 + 1] := by
      intro q9 h9 b h8 e9
      have e1 := l1 q9 h9
      rcases List.mem_cons.mp h8 with rfl | h8
      · exact Nat.ne_of_lt (Nat.lt_succ_of_lt (Nat.lt_succ_of_lt e1)) e9
      · cases h8
    have hMk := kstMark
    have hpl : 0 < ps.length := List.length_pos_iff.mpr hps
    simp only [List.cons_append] at kN
    refine wpAny_assign_Name ?_
    have hsg : (({ cps := #[c] } : Str) == Str.ofString "*") = decide (c = 42) := by
      have e0 : Str.ofString "*" = tx [42] := by decide +kernel
      rw [e0]; show (tx [c] == tx [42]) = _; rw [tx_beq]; by_cases h42 : c = 42 <;> simp [h42]
    have hpd : pat.drop i = c :: pat.drop (i + 1) := by
      have hc' : pat[i]? = some c := by simpa using hc
      obtain ⟨hl, rfl⟩ := List.getElem?_eq_some_iff.mp hc'
      rw [List.drop_eq_getElem_cons hl]
    by_cases h42 : c = 42
    · have hsg1 : (({ cps := #[c] } : Str) == Str.ofString "*") = true := by rw [hsg]; simp [h42]
      k_steps
      (rename IsRange _ _ _ _ _ _ _ _ => hr); (rename _ ∈ ps => hMm); (rename ∀ a, a ∈ ps → _ ≤ a => hMl); (rename Int => M)
      (rename Fr _ _ _ _ => lF'); (rename News _ _ _ _ => lN')
      have hMb := hb _ hMm
      have hnl : (name.length : Int) = nm.length := by rw [← hname, tx_len]
      refine kll_range (by rfl) lF' lN' hr (small_one (by omega) (by omega) (by omega) (by omega)) (range_len _ _) (by omega) ?_
      intro D us cc h2 tk2 F2 N2 lD hus
      clear lF' lN'
      have lD0 := lD
      k_lt lD
      have hpos : 0 < (rangeKs M ((name.length : Int) + 1 - M).toNat).length := by rw [rangeKs_length]; omega
      have hne : rangeKs M ((name.length : Int) + 1 - M).toNat ≠ [] := List.length_pos_iff.mp hpos
      have hned : decide (rangeKs M ((name.length : Int) + 1 - M).toNat = []) = false := by simpa using hne
      k_steps
      (rename Fr _ _ _ _ => lF'); (rename News _ _ _ _ => lN')
      (rename Obj => oI); (rename _ = Data.cell (some (Value.str _ _)) => dI)
      obtain ⟨oi, hoi⟩ := hIo
      have hID : I < D := lD0 _ (List.mem_cons_of_mem _ (List.mem_cons_of_mem _ (List.mem_cons_of_mem _ (List.mem_append_right _ hoi))))
      have hMP := minP_eq hMm hMl
      have hst : stepP nm c ps = rangeKs M ((name.length : Int) + 1 - M).toNat := by unfold stepP; rw [if_pos h42, hMP, hnl]
      rw [hpd, meansF_cons, hst, if_neg hne] at hM
      refine ⟨_, _, _, _, (D, listOf us.toArray cc) :: (L' + 1 + 1, oI) :: (L' + 1, o2c) :: news, rfl, lF', lN', ?_, ?_, ?_, ⟨D, us, _, cc, oI, rfl, hus, rfl, ⟨_, dI⟩, Ne.symm (Nat.ne_of_lt lD.2.1), Ne.symm (Nat.ne_of_lt lD.2.2.1), ?_, hM, hne, ?_, ?_⟩⟩
      · intro q hq'
        rcases List.mem_cons.mp hq' with rfl | hq'
        · exact List.mem_cons_of_mem _ (List.mem_cons_self ..)
        rcases List.mem_cons.mp hq' with rfl | hq'
        · exact List.mem_cons_of_mem _ (List.mem_cons_of_mem _ (List.mem_cons_of_mem _ (List.mem_cons_self ..)))
        rcases List.mem_cons.mp hq' with rfl | hq'
        · exact List.mem_cons_of_mem _ (List.mem_cons_of_mem _ (List.mem_cons_of_mem _ (List.mem_cons_of_mem _ (List.mem_cons_self ..))))
        · exact List.mem_cons_of_mem _ (List.mem_cons_of_mem _ (List.mem_cons_of_mem _ (List.mem_cons_of_mem _ (List.mem_cons_of_mem _ (List.mem_append_left _ hq')))))
      · intro q hq'
        exact List.mem_cons_of_mem _ (List.mem_cons_of_mem _ (List.mem_cons_of_mem _ (List.mem_cons_of_mem _ (List.mem_cons_of_mem _ (List.mem_append_right _ hq')))))
      · intro q hq'
        rcases List.mem_cons.mp hq' with rfl | hq'
        · exact Ne.symm (Nat.ne_of_lt hID)
        rcases List.mem_cons.mp hq' with rfl | hq'
        · exact hq (L' + 1 + 1, o1) (List.mem_cons_of_mem _ (List.mem_cons_self ..))
        · exact hq q (List.mem_cons_of_mem _ (List.mem_cons_of_mem _ hq'))
      · intro q hq'
        exact Nat.ne_of_lt (lD0 _ (List.mem_cons_of_mem _ (List.mem_cons_of_mem _ (List.mem_cons_of_mem _ (List.mem_append_left _ hq')))))
      · intro a ha
        have := mem_rangeKs ha
        omega
      · rw [rangeKs_length]; omega
    · have hsg1 : (({ cps := #[c] } : Str) == Str.ofString "*") = false := by rw [hsg]; simp [h42]
      k_steps
      unfold StopHere
      (rename Fr _ _ _ _ => lF'); (rename News _ _ _ _ => lN')
      (rename Obj => oI); (rename _ = Data.cell (some (Value.str _ _)) => dI)
      have hvl : vs.length = ps.length := hI.length
      k_dflt (refine LCt.Assign_ListComp_T (F₀ := by k_asm) (by rfl) (by with_unfolding_all rfl) (by with_unfolding_all rfl) (by decide) (by rfl) (by decide) (by rfl) (by rfl) (by rfl) ?_)
      k_steps
      refine LCt.CompSrcT.ledger (by rfl) lF' lN' (List.mem_cons_self ..) (by rw [List.size_toArray, hvl, sizeLine_eq]; omega) ?_
      intro g2
      refine compT_inv (fun i ys => IntsAre ys (((ps.take i).filter (okP nm c)).map (· + 1))) (.inr ⟨_, List.mem_cons_self .., rfl, _, rfl⟩) ?step ?fin _ 0 [] (by rw [Nat.zero_add]) (by simpa using IntsAre.nil)
      case step =>
        intro j ys v I2 oI2 C2 oC2 D2 m2 h2 tk2 E2 hj hA hv hC hx F2 N2 off ne
        clear lF' lN'
        rw [List.size_toArray] at hj
        have hjp : j < ps.length := by omega
        obtain ⟨a, ha⟩ : ∃ a, ps[j]? = some a := ⟨ps[j], by simp [hjp]⟩
        obtain ⟨ta, hta⟩ := hI.get j a ha
        have hv' : v = .int a ta := by
          have e9 : vs[j]? = some v := by simpa using hv
          rw [hta] at e9; exact (Option.some.inj e9).symm
        subst hv'
        have hab := hb a (List.mem_of_getElem? ha)
        have hnl : (name.length : Int) = nm.length := by rw [← hname, tx_len]
        have e63 : Str.ofString "?" = tx [63] := by decide +kernel
        have hq63 : (({ cps := #[c] } : Str) == Str.ofString "?") = decide (c = 63) := by
          rw [e63]; show (tx [c] == tx [63]) = _; rw [tx_beq]; by_cases h63 : c = 63 <;> simp [h63]
        have hit : a < nm.length → (({ cps := #[c] } : Str) == Txt.item name a) = decide (nm[a.toNat]? = some c) := by
          intro hal
          obtain ⟨d, hd⟩ : ∃ d, nm[a.toNat]? = some d := ⟨nm[a.toNat]'(by omega), by rw [List.getElem?_eq_getElem]⟩
          rw [← hname, it_nat nm hab.1 hd, hd]
          show (tx [c] == tx [d]) = _
          rw [tx_beq]
          by_cases hcd : c = d
          · simp [hcd]
          · have : ¬ d = c := fun h => hcd h.symm
            simp [hcd, this]
        k_steps
        · (rename a < (name.length : Int) => hal)
          (rename (({ cps := #[c] } : Str) == Str.ofString "?") = true => h63)
          refine itemEnd (by assumption) (by assumption) (fun _ h => h) (accT ha ?_ hA)
          rw [hq63] at h63
          unfold okP; rw [h63]; simp; omega
        · (rename a < (name.length : Int) => hal)
          (rename (({ cps := #[c] } : Str) == Txt.item name a) = true => hsig)
          refine itemEnd (by assumption) (by assumption) (fun _ h => h) (accT ha ?_ hA)
          rw [hit (by omega)] at hsig
          have hsig := of_decide_eq_true hsig
          unfold okP; rw [hsig]; simp; omega
        · (rename a < (name.length : Int) => hal)
          (rename (({ cps := #[c] } : Str) == Str.ofString "?") = false => h63)
          (rename (({ cps := #[c] } : Str) == Txt.item name a) = false => hsig)
          refine itemEnd (by assumption) (by assumption) (fun _ h => h) (accF ha ?_ hA)
          rw [hit (by omega)] at hsig
          rw [hq63] at h63
          have hsig := of_decide_eq_false hsig
          unfold okP; rw [h63]; simp [hsig]
        · (rename ¬ a < (name.length : Int) => hal)
          refine itemEnd (by assumption) (by assumption) (fun _ h => h) (accF ha ?_ hA)
          have : decide (a < (nm.length : Int)) = false := by simpa using (show ¬ a < (nm.length : Int) by omega)
          unfold okP; rw [this]; rfl
      case fin =>
        intro ys hA D2 h2 tk2 F2 N2 off
        clear lF' lN'
        rw [List.size_toArray, hvl, List.take_length] at hA
        have hst : stepP nm c ps = (ps.filter (okP nm c)).map (· + 1) := by unfold stepP; rw [if_neg h42]
        rw [hpd, meansF_cons, hst] at hM
        have hbq : ∀ a : Int, a ∈ (ps.filter (okP nm c)).map (fun x : Int => x + 1) → 0 ≤ a ∧ a ≤ (nm.length : Int) := by
          intro a ha
          obtain ⟨b, hb', rfl⟩ := List.mem_map.mp ha
          obtain ⟨hb1, hb2⟩ := List.mem_filter.mp hb'
          have := hb b hb1
          have h3 : b < nm.length := by
            unfold okP at hb2
            exact of_decide_eq_true (Bool.and_eq_true_iff.mp hb2).1
          omega
        have hlq : ((ps.filter (okP nm c)).map (· + 1)).length ≤ nm.length + 1 := by
          rw [List.length_map]; exact Nat.le_trans (List.length_filter_le _ _) hlen
        generalize (ps.filter (okP nm c)).map (· + 1) = qs at hA hM hbq hlq
        have N3 : News g' L' h2 ((D2, listOf ys.toArray ys.length) :: (l, W.listOf vs.toArray nn) :: (L' + 1 + 1, oI) :: (L' + 1, o2c) :: (news ++ own)) := N2
        clear N2
        have hofm := off1_mem off
        dsimp only
        have hyl : ys.length = qs.length := hA.length
        k_steps
        · refine cb_retB hret ?_ (by assumption) (cb_drop (by assumption) (by (intro p9 h9; first | exact h9 | kst_mem | (simp only [List.mem_cons, List.mem_append]; simp [h9]))))
          (rename decide (qs = []) = true => hqe)
          rw [if_pos (of_decide_eq_true hqe)] at hM
          exact hM.symm
        · (rename decide (qs = []) = false => hqe)
          have hne := of_decide_eq_false hqe
          (rename Fr _ _ _ _ => lF'); (rename News _ _ _ _ => lN')
          rw [if_neg hne] at hM
          obtain ⟨oi, hoi⟩ := hIo
          refine ⟨_, _, _, _, (D2, listOf ys.toArray ys.length) :: (L' + 1 + 1, oI) :: (L' + 1, o2c) :: news, rfl, lF', lN', ?_, ?_, ?_, ⟨D2, ys, qs, _, oI, rfl, hA, rfl, ⟨_, dI⟩, Ne.symm (hofm _ (List.mem_cons_of_mem _ (List.mem_cons_self ..))), Ne.symm (hofm _ (List.mem_cons_of_mem _ (List.mem_cons_of_mem _ (List.mem_cons_self ..)))), ?_, hM, hne, hbq, hlq⟩⟩
          · intro q hq'
            rcases List.mem_cons.mp hq' with rfl | hq'
            · exact List.mem_cons_of_mem _ (List.mem_cons_self ..)
            rcases List.mem_cons.mp hq' with rfl | hq'
            · exact List.mem_cons_of_mem _ (List.mem_cons_of_mem _ (List.mem_cons_of_mem _ (List.mem_cons_self ..)))
            rcases List.mem_cons.mp hq' with rfl | hq'
            · exact List.mem_cons_of_mem _ (List.mem_cons_of_mem _ (List.mem_cons_of_mem _ (List.mem_cons_of_mem _ (List.mem_cons_self ..))))
            · exact List.mem_cons_of_mem _ (List.mem_cons_of_mem _ (List.mem_cons_of_mem _ (List.mem_cons_of_mem _ (List.mem_cons_of_mem _ (List.mem_append_left _ hq')))))
          · intro q hq'
            exact List.mem_cons_of_mem _ (List.mem_cons_of_mem _ (List.mem_cons_of_mem _ (List.mem_cons_of_mem _ (List.mem_cons_of_mem _ (List.mem_append_right _ hq')))))
          · intro q hq'
            rcases List.mem_cons.mp hq' with rfl | hq'
            · exact Ne.symm (hofm (I, oi) (List.mem_cons_of_mem _ (List.mem_cons_of_mem _ (List.mem_cons_of_mem _ (List.mem_append_right _ hoi)))))
            rcases List.mem_cons.mp hq' with rfl | hq'
            · exact hq (L' + 1 + 1, o1) (List.mem_cons_of_mem _ (List.mem_cons_self ..))
            · exact hq q (List.mem_cons_of_mem _ (List.mem_cons_of_mem _ hq'))
          · intro q hq'
            exact hofm q (List.mem_cons_of_mem _ (List.mem_cons_of_mem _ (List.mem_cons_of_mem _ (List.mem_append_left _ hq'))))
  case done =>
    rintro m₁ _ h tk ⟨l, vs, ps, nn, o1, rfl, hI, hm1, ⟨v1, ho1⟩, hn1, hn2, hn3, hM, hps, hb, hlen⟩ kF kN
    clear lF' lN'
    have em : m₁ = fun z => if z = Str.ofString "places" then some (.ref l) else m₁ z := by
      funext z; split
      · rename_i hz; rw [hz]; exact hm1
      · rfl
    rw [em] at kF
    have d2n : o2c.data = Data.cell (some (Value.str name t1)) := d2c
    have hnl : (name.length : Int) = nm.length := by rw [← hname, tx_len]
    have hdd : pat.drop (tx pat).cps.size = [] := by simp
    rw [hdd] at hM
    dsimp only
    k_steps
    unfold StopHere
    (rename Fr _ _ _ _ => lF'); (rename News _ _ _ _ => lN')
    refine in_ints ⟨_, (lN' _ (List.mem_cons_self ..)).1, rfl, _, rfl⟩ hI ?_
    k_steps
    refine cb_retB hret ?_ (by assumption) (cb_drop (by assumption) (by (intro p9 h9; first | exact h9 | kst_mem | (simp only [List.mem_cons, List.mem_append]; simp [h9]))))
    rw [hM, hnl]; rfl
end Mine
end
theorem Mine.quietC10 : True := by
  w_top off
  trivial
section -- C10
local macro_rules | `(tactic| walk_at "execs cons") => `(tactic| (refine wpAny_execs_cons ?_))
namespace Mine
theorem retok {α : Type} {M : Model} {A : Around} {E : Value → Shared → Prop} {t : Sem α} {Q : α → Shared → Prop} {h : Heap} {g d os} {n m : Nat} (e : n = m) (hw : wpAny M A t Q E ⟨h, g, d, m, os⟩) : wpAny M A t Q E ⟨h, g, d, n, os⟩ := e ▸ hw
theorem replaceP {prog : Program} {w : World} {A : Around} {E : Value → Shared → Prop} {s : Shared} {x y z : Str} {t u v : Tok} {Q : Value → Shared → Prop} (hu : u ≠ 0) (hv : v ≠ 0) (huv : u ≠ v) (hyz : (y == z) = false) (hx : x.length ≤ 100000) (hz : z.length ≤ 14)
    (hq : ∀ t' k, Q (.str (Txt.replace x y z) t') { s with toks := k }) : wpAny (model prog w) A (call (.builtin "str.replace") [.str x t, .str y u, .str z v]) Q E s :=
  SC.replaceW hu hv huv hyz (by omega) hz hq
theorem truthy39 {prog : Program} {w : World} {A : Around} {E : Value → Shared → Prop} {s : Shared} {K : Frag} {n : Nat} {Q : Bool → Shared → Prop} (X : K.In s.heap) (hl : K.lookup 39 = some ⟨.type "dict", none, .dict #[] n, #[]⟩)
    (h : ∀ k, Q false { s with toks := k }) : wpAny (model prog w) A (truthy (.ref 39)) Q E s := by
  refine wpAny_truthy_dict (knd := strKind prog w) (kvs := []) (by decide) ⟨_, #[], n, X _ _ hl, ⟨rfl, rfl, rfl⟩, rfl, ⟨?_, ?_, List.nodup_nil⟩⟩ (by decide) (h _)
  · intro e he; simp at he
  · exact .nil
set_option maxHeartbeats 8000000 in
theorem esc_tells (prog : Program) (w : World) (p : Program) (loose : List Str) (mean : ExcName → Option Value) (mg mb : Str → Option Value) (d : Str) (t0 : Tok)
    (hd1 : d.length ≤ 1000) (hd2 : (Txt.replace d (Str.ofString "&") (Str.ofString "&amp;")).length ≤ 10000) (hd3 : (Txt.replace (Txt.replace d (Str.ofString "&") (Str.ofString "&amp;")) (Str.ofString ">") (Str.ofString "&gt;")).length ≤ 10000) :
    Tells prog w p loose mean mg mb 47 [.str d t0] 1 (fun t => .str (escF d) t) := by
  refine fillT ?_
  k_fill
  intro _
  unfold Tells
  intro dp un gd cn cs a ccd cl outer A₀ base h₀ L m news s Q E B F X N T hk hd hu hret
  refine wpAny_call ?_
  k_dflt (refine' code_def ?k1 ?k2 ?k3 ?k4 ?k5 ?kA ?kF ?kK ?k6 ?k7 ?k8 ?k9 ?kB ?_ ?c2 ?c3 ?c4 ?c5; (case kA => exact rfl); (case kF => exact rfl); (case kK => assumption); (case k1 => k_asm); (case k2 => k_asm); (case k3 => k_asm); (case k4 => k_asm); (case k5 => k_asm); (case k6 => k_is); (case k7 => k_is); (case k8 => ktr_room); (case k9 => exact binds_K (by k_in) rfl (by k_is) rfl rfl rfl); (case c5 => decide); (case kB => exact locs rfl); (case c2 => exact rfl); (case c3 => exact rfl); (case c4 => exact rfl); k_whole; intro g' L' h' FG' F' N' B' X' T'; (try dsimp only); (try k_lift B'); (try k_fold))
  (rename Fr _ _ _ (fun y => List.lookup y _) => lF')
  (have lF2 := fr_clean [(Str.ofString "entities", Value.ref 39), (Str.ofString "data", Value.str d t0)] (by with_unfolding_all rfl) lF')
  clear lF'
  refine retok (m := s.toks + 2) (by with_unfolding_all rfl) ?_
  k_steps
  unfold StopHere
  (rename Fr _ _ _ _ => lF'); (rename News _ _ _ _ => lN')
  refine replaceP (Nat.succ_ne_zero _) (Nat.succ_ne_zero _) (Nat.ne_of_lt (Nat.lt_succ_self _)) (by decide +kernel) (by omega) (by decide +kernel) ?_
  intro t1 k1
  dsimp only
  k_steps
  unfold StopHere
  (rename Fr _ _ _ _ => lF'); (rename News _ _ _ _ => lN')
  refine replaceP (Nat.succ_ne_zero _) (Nat.succ_ne_zero _) (Nat.ne_of_lt (Nat.lt_succ_self _)) (by decide +kernel) (by omega) (by decide +kernel) ?_
  intro t2 k2
  dsimp only
  k_steps
  unfold StopHere
  (rename Fr _ _ _ _ => lF'); (rename News _ _ _ _ => lN')
  refine replaceP (Nat.succ_ne_zero _) (Nat.succ_ne_zero _) (Nat.ne_of_lt (Nat.lt_succ_self _)) (by decide +kernel) (by omega) (by decide +kernel) ?_
  intro t3 k3
  dsimp only
  k_steps
  dsimp only
  (rename Fr _ _ _ _ => lF'); (rename News _ _ _ _ => lN')
  (rename Frag.In _ _ => hX)
  refine' truthy39 (hX.keeps lF'.keep) ?hl ?hq
  case hl => k_is
  intro k4
  simp only [Bool.false_eq_true, if_false]
  k_steps
  exact hret _ _ _ (by assumption) (by assumption)
end Mine
end
theorem Mine.quietC16 : True := by
  w_top off
  trivial
section -- C16
namespace Mine
/-- a call that hands back a pair of texts -/
def TellsP (prog : Program) (w : World) (p : Program) (loose : List Str) (mean : ExcName → Option Value) (mg mb : Str → Option Value) (S : Addr) (sv : List Value) (f : Addr) (args : List Value) (d : Nat) (x y : List Nat) : Prop :=
  ∀ (dp un : Nat) (gd : Option (List Code)) (cn : Str) (cs : Scope) (a : Addr) (ccd : Value) (cl : List (Str × Addr)) (outer : List Env) (A₀ : Around) (base h₀ : Heap) (L : Addr) (m : Str → Option Value) (news : List (Addr × Obj)) (s : Shared) (Q E : Value → Shared → Prop),
    Below A₀ base outer h₀ → Fr h₀ L s.heap m → (hd.heap_39 w.params).In h₀ → News h₀ L s.heap news → Top p loose mean mg mb h₀ → cs.kind = .function → dp + d < recursionLimit → un + 8 * d + 64 < cLine → h₀.IsList S sv.toArray →
    (∀ l t u h' tk', Fr h₀ L h' m → News h₀ L h' ((l, { cls := .type "tuple", data := .seq #[.str (tx x) t, .str (tx y) u] }) :: news) → (∀ q ∈ news, q.1 < l) → Q (.ref l) { s with heap := h', toks := tk' }) →
    wpAny (model prog w) (ktrTop dp un gd cn cs L a ccd cl outer) (call (.ref f) args) Q E s
theorem item_A {prog : Program} {w : World} {A : Around} {E : Value → Shared → Prop} {s : Shared} {h₀ : Heap} {L l : Addr} {news : List (Addr × Obj)} {value slice : Expr} {its : Array Value} {n : Nat} {k : Int} {u : Tok} {v : Value} {Q : Value → Shared → Prop} (N : News h₀ L s.heap news) (hm : (l, W.listOf its n) ∈ news) (h0 : 0 ≤ k) (hfit : k < 2 ^ 63) (hv : its[k.toNat]? = some v) (h : Q v s)
    (hs : subscripted slice false (.ref l) (.int k u) = operate [.ref l, .int k u] (getItem (.ref l) (.int k u)) := by with_unfolding_all rfl) :
    wpAny (model prog w) A (subscriptTail value slice (.ref l) (.int k u)) Q E s :=
  item_listR (items := its) ⟨_, (N _ hm).1, rfl, _, rfl⟩ h0 hfit hv h hs
theorem lt6 {k : Nat} (h : k < 6) : k = 0 ∨ k = 1 ∨ k = 2 ∨ k = 3 ∨ k = 4 ∨ k = 5 := by
  match k, h with
  | 0, _ => exact .inl rfl
  | 1, _ => exact .inr (.inl rfl)
  | 2, _ => exact .inr (.inr (.inl rfl))
  | 3, _ => exact .inr (.inr (.inr (.inl rfl)))
  | 4, _ => exact .inr (.inr (.inr (.inr (.inl rfl))))
  | 5, _ => exact .inr (.inr (.inr (.inr (.inr rfl))))
  | k + 6, h => exact absurd h (Nat.not_lt.mpr (Nat.le_add_left 6 k))
theorem lt8 {k : Nat} (h : k < 8) : k = 0 ∨ k = 1 ∨ k = 2 ∨ k = 3 ∨ k = 4 ∨ k = 5 ∨ k = 6 ∨ k = 7 := by
  rcases Nat.lt_or_ge k 6 with q | q
  · rcases lt6 q with q | q | q | q | q | q
    · exact .inl q
    · exact .inr (.inl q)
    · exact .inr (.inr (.inl q))
    · exact .inr (.inr (.inr (.inl q)))
    · exact .inr (.inr (.inr (.inr (.inl q))))
    · exact .inr (.inr (.inr (.inr (.inr (.inl q)))))
  · rcases Nat.eq_or_lt_of_le q with q | q
    · exact .inr (.inr (.inr (.inr (.inr (.inr (.inl q.symm))))))
    · exact .inr (.inr (.inr (.inr (.inr (.inr (.inr (Nat.le_antisymm (Nat.le_of_lt_succ h) q)))))))
theorem fmod_nat (n m : Nat) : ((n : Int)).fmod (m : Int) = ((n % m : Nat) : Int) := by
  rw [Int.fmod_eq_emod_of_nonneg _ (by omega)]; rfl
def signG (x : Int) : Nat := [38, 60, 62, 98, 34, 46].getD (x.fmod 6).toNat 0
def kindG (x : Int) : Nat := ((x.fmod 48).fdiv 6).toNat
def patG (x : Int) : List Nat := [[42], [42], [63], [63], [signG x], [signG x], [], [signG x]].getD (kindG x) []
def nmG (x : Int) : List Nat := if kindG x ≠ 1 ∧ kindG x ≠ 7 then [signG x] else []
def head0 (n : Nat) : List Nat := if n % 2 = 0 then [42, 63] else [63, 42]
theorem item_two {prog : Program} {w : World} {A : Around} {E : Value → Shared → Prop} {s : Shared} {h₀ : Heap} {L l : Addr} {news : List (Addr × Obj)} {value slice : Expr} {a b : Tok} {n k : Nat} {u : Tok} {Q : Value → Shared → Prop} (N : News h₀ L s.heap news)
    (hm : (l, W.listOf #[.str (Str.ofString "*?") a, .str (Str.ofString "?*") b] n) ∈ news) (h : ∀ t, Q (.str (tx (head0 k)) t) s)
    (hs : subscripted slice false (.ref l) (.int ((k : Int).fmod 2) u) = operate [.ref l, .int ((k : Int).fmod 2) u] (getItem (.ref l) (.int ((k : Int).fmod 2) u)) := by with_unfolding_all rfl) :
    wpAny (model prog w) A (subscriptTail value slice (.ref l) (.int ((k : Int).fmod 2) u)) Q E s := by
  have hidx : (k : Int).fmod 2 = ((k % 2 : Nat) : Int) := fmod_nat k 2
  have e1 : Str.ofString "*?" = tx [42, 63] := by decide +kernel
  have e2 : Str.ofString "?*" = tx [63, 42] := by decide +kernel
  have hv : ∃ t, (#[Value.str (Str.ofString "*?") a, Value.str (Str.ofString "?*") b] : Array Value)[((k : Int).fmod 2).toNat]? = some (.str (tx (head0 k)) t) := by
    rw [hidx]
    have hp : k % 2 = 0 ∨ k % 2 = 1 := by omega
    unfold head0
    rcases hp with hp | hp
    · rw [hp, e1, if_pos rfl]; exact ⟨a, rfl⟩
    · rw [hp, e2, if_neg (by decide)]; exact ⟨b, rfl⟩
  obtain ⟨t, hv⟩ := hv
  refine item_A N hm (by rw [hidx]; omega) (by rw [hidx]; omega) hv (h t) hs
theorem fmod48 (x : Int) : ∃ k : Nat, (x.fmod 48).fdiv 6 = (k : Int) ∧ k < 8 := by
  rw [Int.fmod_eq_emod_of_nonneg _ (by omega), Int.fdiv_eq_ediv_of_nonneg _ (by omega)]
  exact ⟨(x % 48 / 6).toNat, by omega, by omega⟩
theorem fmod6 (x : Int) : ∃ k : Nat, x.fmod 6 = (k : Int) ∧ k < 6 := by
  rw [Int.fmod_eq_emod_of_nonneg _ (by omega)]
  exact ⟨(x % 6).toNat, by omega, by omega⟩
theorem sign_item (x : Int) : Txt.item (Str.ofString "&<>b\".") (x.fmod 6) = tx [signG x] := by
  obtain ⟨k, hk, hk6⟩ := fmod6 x
  have e : Str.ofString "&<>b\"." = tx [38, 60, 62, 98, 34, 46] := by decide +kernel
  unfold signG
  rw [e, hk]
  have hk' := lt6 hk6
  rcases hk' with rfl | rfl | rfl | rfl | rfl | rfl <;> exact it_nat _ (by decide) rfl
theorem item_eight {prog : Program} {w : World} {A : Around} {E : Value → Shared → Prop} {s : Shared} {h₀ : Heap} {L l : Addr} {news : List (Addr × Obj)} {value slice : Expr} {a0 a1 a2 a3 a4 a5 a6 a7 : Tok} {n : Nat} {x : Int} {u : Tok} {Q : Value → Shared → Prop} (N : News h₀ L s.heap news)
    (hm : (l, W.listOf #[.str (Str.ofString "*") a0, .str (Str.ofString "*") a1, .str (Str.ofString "?") a2, .str (Str.ofString "?") a3, .str (Txt.item (Str.ofString "&<>b\".") (x.fmod 6)) a4, .str (Txt.item (Str.ofString "&<>b\".") (x.fmod 6)) a5, .str (Str.ofString "") a6, .str (Txt.item (Str.ofString "&<>b\".") (x.fmod 6)) a7] n) ∈ news) (h : ∀ t, Q (.str (tx (patG x)) t) s)
    (hs : subscripted slice false (.ref l) (.int ((x.fmod 48).fdiv 6) u) = operate [.ref l, .int ((x.fmod 48).fdiv 6) u] (getItem (.ref l) (.int ((x.fmod 48).fdiv 6) u)) := by with_unfolding_all rfl) :
    wpAny (model prog w) A (subscriptTail value slice (.ref l) (.int ((x.fmod 48).fdiv 6) u)) Q E s := by
  obtain ⟨k, hk, hk8⟩ := fmod48 x
  have e1 : Str.ofString "*" = tx [42] := by decide +kernel
  have e2 : Str.ofString "?" = tx [63] := by decide +kernel
  have e3 : Str.ofString "" = tx [] := by decide +kernel
  rw [sign_item] at hm
  have hv : ∃ t, (#[Value.str (Str.ofString "*") a0, .str (Str.ofString "*") a1, .str (Str.ofString "?") a2, .str (Str.ofString "?") a3, .str (tx [signG x]) a4, .str (tx [signG x]) a5, .str (Str.ofString "") a6, .str (tx [signG x]) a7] : Array Value)[((x.fmod 48).fdiv 6).toNat]? = some (.str (tx (patG x)) t) := by
    unfold patG kindG
    rw [hk, e1, e2, e3]
    have hk' := lt8 hk8
    rcases hk' with rfl | rfl | rfl | rfl | rfl | rfl | rfl | rfl <;> exact ⟨_, rfl⟩
  obtain ⟨t, hv⟩ := hv
  refine item_A N hm (by rw [hk]; omega) (by rw [hk]; omega) hv (h t) hs
/-- what one number lays behind the pattern -/
theorem patG_is (x : Int) : patG x = [42] ∨ patG x = [63] ∨ patG x = [signG x] ∨ patG x = [] := by
  obtain ⟨k, hk, hk8⟩ := fmod48 x
  unfold patG kindG
  rw [hk]
  rcases lt8 hk8 with rfl | rfl | rfl | rfl | rfl | rfl | rfl | rfl
  · exact .inl rfl
  · exact .inl rfl
  · exact .inr (.inl rfl)
  · exact .inr (.inl rfl)
  · exact .inr (.inr (.inl rfl))
  · exact .inr (.inr (.inl rfl))
  · exact .inr (.inr (.inr rfl))
  · exact .inr (.inr (.inl rfl))
theorem patG_len (x : Int) : (patG x).length ≤ 1 := by
  rcases patG_is x with h | h | h | h <;> rw [h]
  · exact Nat.le_refl 1
  · exact Nat.le_refl 1
  · exact Nat.le_refl 1
  · exact Nat.zero_le 1
theorem tx_cat (a b : List Nat) : tx a ++ tx b = tx (a ++ b) := by
  show (⟨(a.toArray ++ b.toArray)⟩ : Str) = ⟨(a ++ b).toArray⟩
  simp
theorem flat_take {f : Int → List Nat} {l : List Int} {i : Nat} {x : Int} (h : l[i]? = some x) : (l.take (i + 1)).flatMap f = (l.take i).flatMap f ++ f x := by
  have e : l.take (i + 1) = l.take i ++ [x] := by rw [List.take_add_one, h]; rfl
  rw [e, List.flatMap_append]; simp
theorem nmG_yes {x : Int} (h1 : (x.fmod 48).fdiv 6 ≠ 1) (h7 : (x.fmod 48).fdiv 6 ≠ 7) : nmG x = [signG x] := by
  obtain ⟨k, hk, _⟩ := fmod48 x
  unfold nmG kindG
  rw [hk] at h1 h7 ⊢
  rw [if_pos (by omega)]
theorem nmG_no {x : Int} (h : (x.fmod 48).fdiv 6 = 1 ∨ (x.fmod 48).fdiv 6 = 7) : nmG x = [] := by
  obtain ⟨k, hk, _⟩ := fmod48 x
  unfold nmG kindG
  rw [hk] at h ⊢
  rw [if_neg (by omega)]
theorem pair_step {H : List Nat} {l : List Int} {i : Nat} {x : Int} {pt nm add : List Nat} (hx : l[i]? = some x) (h1 : pt = H ++ (l.take i).flatMap patG) (h2 : nm = [98, 60] ++ (l.take i).flatMap nmG) (h3 : pt.length ≤ 2 + i) (h4 : nm.length ≤ 2 + i) (ha : nmG x = add) :
    pt ++ patG x = H ++ (l.take (i + 1)).flatMap patG ∧ nm ++ add = [98, 60] ++ (l.take (i + 1)).flatMap nmG ∧ (pt ++ patG x).length ≤ 2 + (i + 1) ∧ (nm ++ add).length ≤ 2 + (i + 1) := by
  have := patG_len x
  have h5 : add.length ≤ 1 := by rw [← ha]; unfold nmG; split <;> simp
  refine ⟨by rw [flat_take hx, h1, List.append_assoc], by rw [flat_take hx, h2, ha, List.append_assoc], by rw [List.length_append]; omega, by rw [List.length_append]; omega⟩
set_option maxHeartbeats 8000000 in
theorem pair_tells (prog : Program) (w : World) (p : Program) (loose : List Str) (mean : ExcName → Option Value) (mg mb : Str → Option Value) (l : Addr) (vs : List Value) (ns : List Int)
    (hI : IntsAre vs ns) (hlen : ns.length ≤ 63) :
    TellsP prog w p loose mean mg mb l vs 92 [.ref l] 1 (head0 ns.length ++ (ns.take 8).flatMap patG) ([98, 60] ++ (ns.take 8).flatMap nmG) := by
  have hvl : vs.length = ns.length := hI.length
  refine fillT ?_
  k_fill
  intro _
  unfold TellsP
  intro dp un gd cn cs a ccd cl outer A₀ base h₀ L m news s Q E B F X N T hk hd hu hled hret
  refine wpAny_call ?_
  k_dflt cell_enter
  (rename Fr h₀ L _ m => FG')
  (rename Fr _ _ _ (fun y => List.lookup y _) => lF')
  (have lF2 := fr_clean [(Str.ofString "script", Value.ref l)] (by with_unfolding_all rfl) lF')
  clear lF'
  have hil := Fr.lst FG' hled
  k_steps
  (rename Fr _ _ _ _ => lF'); (rename News _ _ _ _ => lN')
  refine item_two lN' (List.Mem.head _) ?_
  intro t1
  k_steps
  unfold StopHere
  (rename Fr _ _ _ _ => lF'); (rename News _ _ _ _ => lN')
  have e0 : Str.ofString "b<" = tx [98, 60] := by decide +kernel
  have eE : Str.ofString "" = tx [] := by decide +kernel
  rw [e0] at lF'
  refine For_invVF lF' (by rfl) (by rfl) ?_
  k_steps
  unfold StopHere
  (try clear lF')
  (try clear lN')
  (rename Fr _ _ _ _ => lF'); (rename News _ _ _ _ => lN')
  (rename IntsAre _ (List.take 8 ns) => hI8)
  have hl8 := hI8.length
  with_unfolding_all refine' iterS_list (σ := List Nat × List Nat × Tok × Tok) (fun _ => news) (fun c => [(Str.ofString "pattern", Value.str (tx c.1) c.2.2.1), (Str.ofString "name", Value.str (tx c.2.1) c.2.2.2)]) [Str.ofString "sign", Str.ofString "kind"] (fun i c => c.1 = head0 ns.length ++ ((ns.take 8).take i).flatMap patG ∧ c.2.1 = [98, 60] ++ ((ns.take 8).take i).flatMap nmG ∧ c.1.length ≤ 2 + i ∧ c.2.1.length ≤ 2 + i) (head0 ns.length, [98, 60], _, _) (by rfl) ?hl ?hlL lF' ?N ?hk ?hp ?turn ?done
  case hl => exact ⟨_, (lN' _ (List.mem_cons_self ..)).1, rfl, _, rfl⟩
  case hlL => exact (lN' _ (List.mem_cons_self ..)).2.1
  case N => exact (cb_drop lN' (by (intro p9 h9; first | exact h9 | kst_mem | (simp only [List.mem_cons, List.mem_append]; simp [h9]))))
  case hk => kst_all
  case hp => exact ⟨by simp, by simp, by unfold head0; split <;> simp, by simp⟩
  case turn =>
    intro I i v c u h tk own hv hIo hq hP kF kN
    obtain ⟨pt, nm, tp, tn⟩ := c
    dsimp only at hP kF kN ⊢
    clear lF' lN'
    obtain ⟨hp1, hp2, hp3, hp4⟩ := hP
    have hi : i < (ns.take 8).length := by
      rw [← hl8]
      rcases Nat.lt_or_ge i _ with q | q
      · exact q
      · rw [List.getElem?_eq_none q] at hv; cases hv
    obtain ⟨x, hx⟩ : ∃ x, (ns.take 8)[i]? = some x := ⟨_, List.getElem?_eq_getElem hi⟩
    obtain ⟨tv, hv'⟩ := hI8.get i x hx
    rw [hv'] at hv
    have hv9 := Option.some.inj hv
    subst hv9
    have hi8 : i < 8 := by rw [List.length_take] at hi; omega
    have hpl1 : (tx pt).length ≤ 100 := by rw [tx_len]; omega
    have hpl2 : (tx nm).length ≤ 100 := by rw [tx_len]; omega
    k_steps
    (rename Fr _ _ _ _ => lF'); (rename News _ _ _ _ => lN')
    refine item_eight lN' (List.Mem.head _) ?_
    intro t5
    have hpx : (tx (patG x)).length ≤ 1 := by rw [tx_len]; exact patG_len x
    k_steps
    · (rename Fr _ _ _ _ => lF'); (rename News _ _ _ _ => lN')
      (rename (x.fmod 48).fdiv 6 ≠ 1 => hk1); (rename (x.fmod 48).fdiv 6 ≠ 7 => hk7)
      rw [sign_item, tx_cat, tx_cat] at lF'
      refine endS (⟨pt ++ patG x, nm ++ [signG x], _, _⟩ : List Nat × List Nat × Tok × Tok) lF' lN' (by (intro p9 h9; kst_mem)) (by (intro p9 h9; kst_mem)) hq (by kst_all) (by (intro z h1 h2 h3; (try simp at h2); (try simp at h3); simp [h1, h2, h3, kstB])) (pair_step hx hp1 hp2 hp3 hp4 (nmG_yes hk1 hk7))
    · (rename Fr _ _ _ _ => lF'); (rename News _ _ _ _ => lN')
      (rename (x.fmod 48).fdiv 6 = 7 => hk7)
      rw [eE, tx_cat, tx_cat] at lF'
      refine endS (⟨pt ++ patG x, nm ++ [], _, _⟩ : List Nat × List Nat × Tok × Tok) lF' lN' (by (intro p9 h9; kst_mem)) (by (intro p9 h9; kst_mem)) hq (by kst_all) (by (intro z h1 h2 h3; (try simp at h2); (try simp at h3); simp [h1, h2, h3, kstB])) (pair_step hx hp1 hp2 hp3 hp4 (nmG_no (.inr hk7)))
    · (rename Fr _ _ _ _ => lF'); (rename News _ _ _ _ => lN')
      (rename (x.fmod 48).fdiv 6 = 1 => hk1)
      rw [eE, tx_cat, tx_cat] at lF'
      refine endS (⟨pt ++ patG x, nm ++ [], _, _⟩ : List Nat × List Nat × Tok × Tok) lF' lN' (by (intro p9 h9; kst_mem)) (by (intro p9 h9; kst_mem)) hq (by kst_all) (by (intro z h1 h2 h3; (try simp at h2); (try simp at h3); simp [h1, h2, h3, kstB])) (pair_step hx hp1 hp2 hp3 hp4 (nmG_no (.inl hk1)))
  case done =>
    intro c u h tk hP kF kN
    obtain ⟨pt, nm, tp, tn⟩ := c
    dsimp only at hP kF kN ⊢
    clear lF' lN'
    rw [hl8, List.take_length] at hP
    obtain ⟨hp1, hp2, _, _⟩ := hP
    subst hp1; subst hp2
    k_steps
    exact hret _ _ _ _ _ (by assumption) (by assumption) (by assumption)
end Mine
end
section -- E1
namespace Mine
theorem takesT_tells (prog : Program) (w : World) (p : Program) (loose : List Str) (mean : ExcName → Option Value) (mg mb : Str → Option Value) (mk pat nm : List Nat) (t0 t1 t2 : Tok)
    (hmk : mk = [46] ∨ mk = markL) (hs : 42 ∈ pat) (hp : ∀ c ∈ pat, c = 42 ∨ c = 63 ∨ okC c) (hlp : pat.length ≤ 100) (hn : nm.length ≤ 1000) :
    Tells prog w p loose mean mg mb 118 [.str (tx (textOf mk pat)) t0, .str (tx mk) t1, .str (tx nm) t2] 3 (fun t => .bool (takesT mk nm pat)) := by
  have h := segs_last hs
  unfold takesT
  generalize (segsOf pat).2.dropLast = mids at h ⊢
  generalize (segsOf pat).2.getLastD [] = last at h ⊢
  have h40 : mk.length ≤ 40 := by rcases hmk with rfl | rfl <;> decide
  have h42 : 42 ∉ mk := by rcases hmk with rfl | rfl <;> decide
  obtain ⟨b1, b2, b3, b4⟩ := segs_bd pat mids last h
  have hmem := segs_mem pat
  rw [h] at hmem
  have hok : ∀ xs : List Item, (∀ c, some c ∈ xs → c ∈ pat ∧ c ≠ 42 ∧ c ≠ 63) → MarkOk mk xs ∧ NoStar xs := by
    intro xs hx
    have hc : ∀ c, some c ∈ xs → c ≠ 92 ∧ c ≠ 40 := by
      intro c hc
      obtain ⟨h1, h2, h3⟩ := hx c hc
      rcases hp c h1 with q | q | q
      · exact absurd q h2
      · exact absurd q h3
      · unfold okC at q; omega
    refine ⟨?_, fun q => (hx 42 q).2.1 rfl⟩
    rcases hmk with rfl | rfl
    · exact ⟨46, [], rfl, by decide, h40, fun c q => ⟨(hc c q).1, by omega⟩⟩
    · exact ⟨40, _, rfl, by decide, h40, fun c q => ⟨(hc c q).1, .inr (.inr (hc c q).2)⟩⟩
  obtain ⟨m1, n1⟩ := hok (segsOf pat).1 fun c hc => hmem c (.inl hc)
  obtain ⟨m2, n2⟩ := hok last fun c hc => hmem c (.inr ⟨last, by simp, hc⟩)
  have m3 : ∀ m ∈ mids, MarkOk mk m ∧ NoStar m := fun m hm => hok m fun c hc => hmem c (.inr ⟨m, by simp [hm], hc⟩)
  have hlen := text_len mk pat mids last h h40
  rw [text_eq mk pat _ last mids rfl h] at hlen ⊢
  refine takes_tells prog w p loose mean mg mb (tx ([40, 63, 115, 58] ++ insideL mk (segsOf pat).1 last mids ++ [41, 92, 90])) mk nm (segsOf pat).1 last mids t0 t1 t2 0 (by rw [tx_len]; omega) hn m1 m2 (fun m hm => ⟨(m3 m hm).1, by have := b4 m hm; omega⟩) (by omega) (by omega) (by omega) (textA _) (textB _) ?_ ?_ ?_
  · rw [textI, inR mk _ last mids h42 n2]; omega
  · rw [textI]; exact inL mk _ last mids h42 n2
  · rw [textI]; exact inS mk _ last mids h42 (fun m hm => (m3 m hm).2) n1 n2
theorem subst_len (c : Nat) (z : List Nat) : ∀ l : List Nat, (subst c z l).length ≤ (z.length + 1) * l.length
  | [] => Nat.zero_le _
  | k :: r => by
    have ih := subst_len c z r
    have e : subst c z (k :: r) = (if k = c then z else [k]) ++ subst c z r := by simp [subst]
    have h1 : (if k = c then z else [k]).length ≤ z.length + 1 := by split <;> simp
    rw [e, List.length_append, List.length_cons, Nat.mul_succ]; omega
theorem escT_tells (prog : Program) (w : World) (p : Program) (loose : List Str) (mean : ExcName → Option Value) (mg mb : Str → Option Value) (l : List Nat) (t0 : Tok) (h : l.length ≤ 100) :
    Tells prog w p loose mean mg mb 47 [.str (tx l) t0] 1 (fun t => .str (tx (escL l)) t) := by
  have a0 : Str.ofString "&" = tx [38] := by decide +kernel
  have a1 : Str.ofString "&amp;" = tx [38, 97, 109, 112, 59] := by decide +kernel
  have g0 : Str.ofString ">" = tx [62] := by decide +kernel
  have g1 : Str.ofString "&gt;" = tx [38, 103, 116, 59] := by decide +kernel
  have e : escF (tx l) = tx (escL l) := escF_tx l
  have h1 := subst_len 38 [38, 97, 109, 112, 59] l
  have h2 := subst_len 62 [38, 103, 116, 59] (subst 38 [38, 97, 109, 112, 59] l)
  simp only [List.length_cons, List.length_nil] at h1 h2
  have key := esc_tells prog w p loose mean mg mb (tx l) t0 (by rw [tx_len]; omega) (by rw [a0, a1, replace_sign, tx_len]; omega) (by rw [a0, a1, g0, g1, replace_sign l, replace_sign, tx_len]; omega)
  rw [e] at key
  exact key
end Mine
end
section -- E2
namespace Mine
def patOf (ns : List Int) : List Nat := head0 ns.length ++ (ns.take 8).flatMap patG
def nmOf (ns : List Int) : List Nat := [98, 60] ++ (ns.take 8).flatMap nmG
def sgL : List Nat := [38, 60, 62, 98, 34, 46]
def okL : List Nat := [38, 46, 60, 62, 98, 34, 97, 109, 112, 59, 108, 116, 103]
theorem sgn_of {c : Nat} (h : c ∈ sgL) : Sgn c := by simpa [sgL, Sgn] using h
theorem ok_of {c : Nat} (h : c ∈ okL) : okC c := by simpa [okL, okC] using h
theorem sgn_sign (x : Int) : Sgn (signG x) := by
  obtain ⟨k, hk, hk6⟩ := fmod6 x
  refine sgn_of ?_
  unfold signG
  rw [hk]
  rcases lt6 hk6 with rfl | rfl | rfl | rfl | rfl | rfl <;> decide
theorem patG_ok (x : Int) : PatOk (patG x) := by
  intro c hc
  rcases patG_is x with h | h | h | h <;> rw [h] at hc
  · exact .inl (List.mem_singleton.mp hc)
  · exact .inr (.inl (List.mem_singleton.mp hc))
  · exact .inr (.inr (List.mem_singleton.mp hc ▸ sgn_sign x))
  · cases hc
theorem patOf_ok (ns : List Int) : PatOk (patOf ns) := by
  intro c hc
  rcases List.mem_append.mp hc with h | h
  · have h2 : c = 42 ∨ c = 63 := by
      unfold head0 at h
      split at h
      · exact (by decide : ∀ c ∈ [42, 63], c = 42 ∨ c = 63) c h
      · exact (by decide : ∀ c ∈ [63, 42], c = 42 ∨ c = 63) c h
    exact h2.imp id .inl
  · obtain ⟨x, _, h⟩ := List.mem_flatMap.mp h
    exact patG_ok x c h
theorem nmOf_ok (ns : List Int) : NmOk (nmOf ns) := by
  intro c hc
  rcases List.mem_append.mp hc with h | h
  · exact sgn_of ((by decide : ∀ c ∈ [98, 60], c ∈ sgL) c h)
  · obtain ⟨x, _, h⟩ := List.mem_flatMap.mp h
    unfold nmG at h
    split at h
    · rw [List.mem_singleton.mp h]; exact sgn_sign x
    · cases h
theorem patOf_star (ns : List Int) : 42 ∈ patOf ns := by
  refine List.mem_append_left _ ?_
  unfold head0; split <;> decide
theorem flat_le {f : Int → List Nat} (hf : ∀ x, (f x).length ≤ 1) : ∀ l : List Int, (l.flatMap f).length ≤ l.length
  | [] => Nat.le_refl _
  | x :: r => by
    have ih := flat_le hf r
    have := hf x
    rw [List.flatMap_cons, List.length_append, List.length_cons]; omega
theorem patOf_len (ns : List Int) : (patOf ns).length ≤ 10 := by
  unfold patOf
  have h1 := flat_le patG_len (ns.take 8)
  have h2 : (head0 ns.length).length = 2 := by unfold head0; split <;> rfl
  rw [List.length_take] at h1
  rw [List.length_append]; omega
theorem nmOf_len (ns : List Int) : (nmOf ns).length ≤ 10 := by
  unfold nmOf
  have h1 := flat_le (f := nmG) (by intro x; unfold nmG; split <;> simp) (ns.take 8)
  rw [List.length_take] at h1
  rw [List.length_append]
  simp only [List.length_cons, List.length_nil]; omega
theorem escL_len : ∀ l : List Nat, (escL l).length ≤ 5 * l.length
  | [] => Nat.le_refl _
  | c :: r => by
    have ih := escL_len r
    have := (esc_pos c).2
    have e : escL (c :: r) = esc c ++ escL r := by simp [escL]
    rw [e, List.length_append, List.length_cons]; omega
/-- a sign of a pattern is one that the escaping knows -/
theorem sgn_okC {c : Nat} (h : Sgn c) : okC c := by
  unfold Sgn at h
  rcases h with rfl | rfl | rfl | rfl | rfl | rfl <;> exact ok_of (by decide)
theorem pat_okC {pat : List Nat} (h : PatOk pat) : ∀ c ∈ pat, c = 42 ∨ c = 63 ∨ okC c := fun c hc => (h c hc).imp id (Or.imp id sgn_okC)
theorem esc_okC {pat : List Nat} (h : PatOk pat) : ∀ c ∈ escL pat, c = 42 ∨ c = 63 ∨ okC c := by
  intro c hc
  obtain ⟨d, hd, hc⟩ := List.mem_flatMap.mp hc
  rcases h d hd with rfl | rfl | h
  · exact .inl (List.mem_singleton.mp hc)
  · exact .inr (.inl (List.mem_singleton.mp hc))
  · refine .inr (.inr (ok_of ?_))
    unfold Sgn at h
    rcases h with rfl | rfl | rfl | rfl | rfl | rfl
    · exact (by decide : ∀ c ∈ esc 38, c ∈ okL) c hc
    · exact (by decide : ∀ c ∈ esc 60, c ∈ okL) c hc
    · exact (by decide : ∀ c ∈ esc 62, c ∈ okL) c hc
    · exact (by decide : ∀ c ∈ esc 98, c ∈ okL) c hc
    · exact (by decide : ∀ c ∈ esc 34, c ∈ okL) c hc
    · exact (by decide : ∀ c ∈ esc 46, c ∈ okL) c hc
theorem nm_take {nm : List Nat} (h : NmOk nm) (k : Nat) : NmOk (nm.take k) := fun c hc => h c (List.mem_of_mem_take hc)
theorem text_bd {mk pat : List Nat} (hs : 42 ∈ pat) (hmk : mk.length ≤ 40) (hp : pat.length ≤ 100) : (textOf mk pat).length ≤ 4060 := by
  have := text_len mk pat _ _ (segs_last hs) hmk; omega
end Mine
end
section -- E3
namespace Mine
open PyProof.V PySem.SeqAt
theorem readsAll_bools {h : Heap} : ∀ bs : List Bool, ReadsAll h (bs.map Value.bool) (bs.map PyData.bool) []
  | [] => .nil
  | b :: r => by
    have := ReadsAll.cons (Reads.bool (h := h) b) (readsAll_bools (h := h) r)
    simpa using this
theorem reads_bools {h : Heap} {a : Addr} {bs : List Bool} (hl : h.IsList a (bs.map Value.bool).toArray) : Reads h (.ref a) (.list (bs.map PyData.bool)) [a] := by
  obtain ⟨o, ho, hc, n, hd⟩ := hl
  exact Reads.list ho hc hd (by simpa using readsAll_bools bs)
theorem lay_bools : ∀ bs : List Bool, PyData.canLayAll0 (bs.map PyData.bool) = true
  | [] => by simp [PyData.canLayAll0]
  | b :: r => by simp [PyData.canLayAll0, PyData.canLay0, lay_bools r]
theorem depth_bools : ∀ bs : List Bool, PyData.depthAll (bs.map PyData.bool) ≤ 1
  | [] => by simp [PyData.depthAll]
  | b :: r => by
    have := depth_bools r
    simp only [List.map_cons, PyData.depthAll, PyData.depth]
    omega
theorem shaped_bools (bs : List Bool) : shaped (.list (bs.map PyData.bool)) = true := by
  have h1 := depth_bools bs
  have h2 : PyData.depth (.list (bs.map PyData.bool)) ≤ 64 := by simp only [PyData.depth]; omega
  show (PyData.canLay0 (.list (bs.map PyData.bool)) && decide (PyData.depth (.list (bs.map PyData.bool)) ≤ 64)) = true
  rw [Bool.and_eq_true]
  exact ⟨by simp only [PyData.canLay0]; exact lay_bools bs, decide_eq_true h2⟩
theorem noMix_bools : ∀ bs : List Bool, noMixAll (bs.map PyData.bool) (bs.map PyData.bool) = true
  | [] => by simp [noMixAll]
  | _ :: r => by simp [noMixAll, noMix, noMix_bools r]
theorem same_bools : ∀ bs : List Bool, PySem.Spec.sameAll (bs.map PyData.bool) (bs.map PyData.bool) = true
  | [] => by simp [PySem.Spec.sameAll]
  | b :: r => by simp only [List.map_cons, PySem.Spec.sameAll, PySem.Spec.same, same_bools r]; simp
section
variable {prog : Program} {w : World} {A : Around} {E : Value → Shared → Prop} {s : Shared}
/-- two lists of the same truth values are alike -/
theorem eq_bools {a b : Addr} {bs : List Bool} {Q : Value → Shared → Prop} (hl : s.heap.IsList a (bs.map Value.bool).toArray) (hl' : s.heap.IsList b (bs.map Value.bool).toArray) (hu : A.units + 64 < cLine)
    (h : Q (.bool true) s) : wpAny (model prog w) A (compareOp .Eq (.ref a) (.ref b)) Q E s :=
  eq_dataH_same (reads_bools hl) (reads_bools hl') (shaped_bools bs) (shaped_bools bs) hu (by simp only [noMix]; exact noMix_bools bs) (by simp only [PySem.Spec.same]; rw [same_bools]; exact h)
theorem ne_bools {a b : Addr} {bs : List Bool} {Q : Value → Shared → Prop} (hl : s.heap.IsList a (bs.map Value.bool).toArray) (hl' : s.heap.IsList b (bs.map Value.bool).toArray) (hu : A.units + 64 < cLine)
    (h : Q (.bool false) s) : wpAny (model prog w) A (compareOp .NotEq (.ref a) (.ref b)) Q E s :=
  ne_dataH_same (reads_bools hl) (reads_bools hl') (shaped_bools bs) (shaped_bools bs) hu (by simp only [noMix]; exact noMix_bools bs) (by simp only [PySem.Spec.same]; rw [same_bools]; exact h)
end
end Mine
end
theorem Mine.quietC17 : True := by
  w_top off
  trivial
section -- C17
local macro_rules | `(tactic| walk_at "call ref") => `(tactic| (refine Mine.stop_of ?_))
local macro_rules | `(tactic| walk_at "CompSrc") => `(tactic| (refine Mine.stop_of ?_))
local macro_rules | `(tactic| walk_at "compareOp NotEq ref ref") => `(tactic| (refine Mine.stop_of ?_))
local macro_rules | `(tactic| walk_at "compareOp Eq ref ref") => `(tactic| (refine Mine.stop_of ?_))
namespace Mine
theorem tellsP_use {prog : Program} {w : World} {p : Program} {loose : List Str} {mean : ExcName → Option Value} {mg mb : Str → Option Value} {S : Addr} {sv : List Value} {f : Addr} {args : List Value} {d : Nat} {x y : List Nat}
    {dp un : Nat} {gd : Option (List Code)} {cn : Str} {cs : Scope} {a : Addr} {ccd : Value} {cl : List (Str × Addr)} {outer : List Env} {A₀ : Around} {base h₀ : Heap} {L : Addr} {m : Str → Option Value} {news : List (Addr × Obj)} {s : Shared} {Q E : Value → Shared → Prop}
    (B : Below A₀ base outer h₀) (F : Fr h₀ L s.heap m) (X : (hd.heap_39 w.params).In h₀) (N : News h₀ L s.heap news) (T : Top p loose mean mg mb h₀) (hk : cs.kind = .function) (C : TellsP prog w p loose mean mg mb S sv f args d x y) (hd : dp + d < recursionLimit) (hu : un + 8 * d + 64 < cLine) (hl : h₀.IsList S sv.toArray)
    (ret : ∀ l t u h' tk', Fr h₀ L h' m → News h₀ L h' ((l, { cls := .type "tuple", data := .seq #[.str (tx x) t, .str (tx y) u] }) :: news) → (∀ q ∈ news, q.1 < l) → Q (.ref l) { s with heap := h', toks := tk' }) :
    wpAny (model prog w) (ktrTop dp un gd cn cs L a ccd cl outer) (call (.ref f) args) Q E s := C _ _ _ _ _ _ _ _ _ _ _ _ _ _ _ _ _ _ B F X N T hk hd hu hl ret
theorem news_two {h₀ h : Heap} {L : Addr} {x y : Addr × Obj} {r : List (Addr × Obj)} (N : News h₀ L h (x :: y :: r)) : News h₀ L h (x :: r) := fun p hp => by
  rcases List.mem_cons.mp hp with rfl | hp
  · exact N _ (List.mem_cons_self ..)
  · exact N p (List.mem_cons_of_mem _ (List.mem_cons_of_mem _ hp))
theorem news_tail {h₀ h : Heap} {L : Addr} {x : Addr × Obj} {r : List (Addr × Obj)} (N : News h₀ L h (x :: r)) : News h₀ L h r := fun p hp => N p (List.mem_cons_of_mem _ hp)
theorem strs_get {vs : List Value} {xs : List Str} (h : StrsAre vs xs) : ∀ {i : Nat} {v : Value}, vs[i]? = some v → ∃ x t, xs[i]? = some x ∧ v = .str x t := by
  induction h with
  | nil => intro i v hv; simp at hv
  | cons x t r ih =>
    intro i v hv
    cases i with
    | zero => simp at hv; exact ⟨x, t, rfl, hv.symm⟩
    | succ i => simp at hv; obtain ⟨y, u, h1, h2⟩ := ih hv; exact ⟨y, u, by simpa using h1, h2⟩
theorem heads_get {nm : List Nat} {n j : Nat} {x : Str} (h : ((List.range n).map fun k => tx (nm.take k))[j]? = some x) : x = tx (nm.take j) := by
  rw [List.getElem?_map] at h
  obtain ⟨k, hk, rfl⟩ := Option.map_eq_some_iff.mp h
  obtain ⟨h1, h2⟩ := List.getElem?_eq_some_iff.mp hk
  have : k = j := by rw [← h2]; simp
  rw [this]
theorem strs_len {vs : List Value} {xs : List Str} (h : StrsAre vs xs) : vs.length = xs.length := by
  induction h with
  | nil => rfl
  | cons x t r ih => simp [ih]
theorem bools_next {f : Nat → Bool} {j : Nat} {ys : List Value} (h : ys = ((List.range j).map f).map Value.bool) : ys ++ [.bool (f j)] = ((List.range (j + 1)).map f).map Value.bool := by
  rw [List.range_succ, List.map_append, List.map_append, h]; rfl
theorem joinT_tells (prog : Program) (w : World) (p : Program) (loose : List Str) (mean : ExcName → Option Value) (mg mb : Str → Option Value) (mk pat : List Nat) (S l : Addr) (vs : List Value) (n : Nat) (V : PartsAre S vs (pat.foldl (stepT mk) [])) (hlp : pat.length ≤ 1000) (hfin : (textOf mk pat).length ≤ 100000) :
    TellsN prog w p loose mean mg mb [(l, W.listOf vs.toArray n)] 85 [.ref l, .ref S] 1 (fun t => .str (tx (textOf mk pat)) t) := by
  have hvl : vs.length ≤ 1000 := by
    have := parts_len mk pat []
    rw [V.1]
    simp only [List.length_nil] at this; omega
  rw [fold_nil] at V
  exact join_tells prog w p loose mean mg mb S l vs n _ _ _ rfl V (segs_good mk pat).2 hvl (text_fits hfin)
theorem markL_eq : Str.ofString "(?:&(?:amp|lt|gt);|[^&aglmpt;])" = tx markL := by decide +kernel
set_option maxHeartbeats 8000000 in
theorem law_x : PySem.Challenge.rw_ij0027_01.Holds := hd (by
  k_go0
  all_goals (try k_fold)
  k_steps
  unfold StopHere
  (rename IntsAre _ _ => hInts); (rename ¬ _ < _ => hLen)
  (rename List Int => ns)
  have hpok := patOf_ok ns
  have hnok := nmOf_ok ns
  have hstar := patOf_star ns
  have hpl := patOf_len ns
  have hnl := nmOf_len ns
  have hPair := fun prog w p loose mean mg mb l => pair_tells prog w p loose mean mg mb l _ ns hInts (by omega)
  have ep : head0 ns.length ++ (ns.take 8).flatMap patG = patOf ns := rfl
  have en : [98, 60] ++ (ns.take 8).flatMap nmG = nmOf ns := rfl
  simp only [ep, en] at hPair
  clear ep en
  generalize patOf ns = pt at hpok hstar hpl hPair
  generalize nmOf ns = nm at hnok hnl hPair
  refine' tellsP_use ?k1 ?k2 ?k3 ?k4 ?k5 ?kK (hPair _ _ _ _ _ _ _ _) ?kd ?ku ?kl ?_; (case k1 => k_asm); (case k2 => k_asm); (case k3 => k_asm); (case k4 => k_asm); (case k5 => k_asm); (case kK => first | exact rfl | assumption); (case kd => ktr_room); (case ku => ktr_units); (case kl => assumption)
  intro l9 t9 u9 h9 tk9 F9 N9 lt9
  (try k_lt lt9)
  (try dsimp only)
  (try k_fold)
  have hpl1 : (tx pt).length ≤ 10 := by rw [tx_len]; exact hpl
  have hnl1 : (tx nm).length ≤ 10 := by rw [tx_len]; exact hnl
  have hnl2 : (tx nm).length = nm.length := tx_len nm
  have htk : ∀ j, (nm.take j).length ≤ 10 := fun j => Nat.le_trans (by rw [List.length_take]; exact Nat.min_le_right _ _) hnl
  have hpb : pt.length ≤ 100 := Nat.le_trans hpl (by decide)
  have hpc : pt.length ≤ 1000 := Nat.le_trans hpl (by decide)
  have hel : (escL pt).length ≤ 50 := Nat.le_trans (escL_len pt) (Nat.mul_le_mul_left 5 hpl)
  have heb : (escL pt).length ≤ 100 := Nat.le_trans hel (by decide)
  have hec : (escL pt).length ≤ 1000 := Nat.le_trans hel (by decide)
  obtain ⟨a1, a2, a3, a4, a5, a6⟩ := lt9
  k_steps
  unfold StopHere
  (rename _ ∧ _ ∧ _ ∧ _ ∧ _ ∧ _ ∧ _ => l1)
  obtain ⟨b0, b1, b2, b3, b4, b5, b6⟩ := l1
  clear a1 a2 a3 a4 a5 a6 b0
  (rename News _ _ _ _ => lN')
  replace lN' := news_two lN'
  k_dflt (refine LCg.Assign_ListComp_U (F₀ := by k_asm) (by rfl) (by with_unfolding_all rfl) (by with_unfolding_all rfl) (by decide) (by rfl) (by decide) (by rfl) (by rfl) (by rfl) ?_)
  k_steps
  unfold StopHere
  (rename IsRange _ _ _ _ _ _ _ _ => hr)
  refine LCg.CompSrc.range (n := nm.length + 1) (by rfl) (by k_asm) (by k_asm) hr (small_one (by omega) (by omega) (by omega) (by omega)) (by rw [range_len]; omega) (by rw [sizeLine_eq]; omega) ?_
  intro g2
  refine compU_inv (fun i ys => StrsAre ys ((List.range i).map fun k => tx (nm.take k))) trivial ?step ?fin _ 0 [] (by rw [Nat.zero_add]) .nil
  case step =>
    intro j ys v I2 oI2 C2 oC2 D2 m2 h2 tk2 E2 hj hA hv hC hx F2 N2 off ne
    obtain ⟨tv, rfl⟩ := hv
    rw [Int.zero_add] at hx
    k_steps
    refine itemEnd (by assumption) (by assumption) (fun _ h => h) ?_
    show StrsAre (ys ++ [_]) ((List.range (j + 1)).map fun k => tx (nm.take k))
    rw [List.range_succ, List.map_append, slice_to nm (by omega), Int.toNat_natCast]
    exact hA.append' (.cons _ _ .nil)
  case fin =>
    intro hs hA D2 h2 tk2 F2 N2 off
    dsimp only [LCg.Off1] at off
    obtain ⟨o1, o2, o3, o4, o5, o6, o7, -⟩ := off
    have hhl : hs.length = nm.length + 1 := by rw [strs_len hA]; simp
    k_steps
    unfold StopHere
    k_dflt (refine LCg.Assign_ListComp_U (F₀ := by k_asm) (by rfl) (by with_unfolding_all rfl) (by with_unfolding_all rfl) (by decide) (by rfl) (by decide) (by rfl) (by rfl) (by rfl) ?_)
    k_steps
    unfold StopHere
    refine LCg.CompSrc.ledger (by rfl) (by k_asm) (by k_asm) (List.mem_cons_self ..) (by rw [List.size_toArray, hhl, sizeLine_eq]; omega) ?_
    intro g3
    refine compU_inv (fun i ys => ys = ((List.range i).map fun k => meansF (nm.take k) pt [0]).map Value.bool) (.inr ⟨_, List.mem_cons_self .., rfl, _, rfl⟩) ?step ?fin _ 0 [] (by rw [Nat.zero_add]) rfl
    case step =>
      intro j ys v I3 oI3 C3 oC3 D3 m3 h3 tk3 E3 hj hY hv hC hx F3 N3 off3 ne
      obtain ⟨x, tv, hx9, rfl⟩ := strs_get hA (show hs[j]? = some v by simpa using hv)
      have hx8 := heads_get hx9
      subst hx8
      k_steps
      unfold StopHere
      refine' tells_use ?k1 ?k2 ?k3 ?k4 ?k5 ?kK (means_tells _ _ _ _ _ _ _ pt (nm.take j) _ _ hpc (Nat.le_trans (htk j) (by decide))) ?kd ?ku ?_; (case k1 => k_asm); (case k2 => k_asm); (case k3 => k_asm); (case k4 => k_asm); (case k5 => k_asm); (case kK => first | exact rfl | assumption); (case kd => ktr_room); (case ku => ktr_units)
      intro t9 h9 tk9 F9 N9
      (try dsimp only)
      (try k_fold)
      k_steps
      refine itemEnd (by assumption) (by assumption) (fun _ h => h) ?_
      exact bools_next hY
    case fin =>
      intro due hY D3 h3 tk3 F3 N3 off3
      dsimp only [LCg.Off1] at off3
      obtain ⟨p1, p2, p3, p4, p5, p6, p7, p8, -⟩ := off3
      k_steps
      unfold StopHere
      have hdl : hs.toArray.size = nm.length + 1 := by rw [List.size_toArray, hhl]
      rw [hdl] at hY
      subst hY
      refine' tells_use ?k1 ?k2 ?k3 ?k4 ?k5 ?kK (trans_tells _ _ _ _ _ _ _ pt _ hpc (pat_okC hpok) (Nat.le_trans (text_bd hstar (by decide) hpb) (by decide))) ?kd ?ku ?_; (case k1 => k_asm); (case k2 => k_asm); (case k3 => k_asm); (case k4 => k_asm); (case k5 => k_asm); (case kK => first | exact rfl | assumption); (case kd => ktr_room); (case ku => ktr_units)
      intro t9 h9 tk9 F9 N9
      (try dsimp only)
      (try k_fold)
      k_steps
      unfold StopHere
      refine LCg.ListComp_U (F₀ := by k_asm) (by with_unfolding_all rfl) (by decide) (by rfl) (by decide) (by rfl) ?_
      k_steps
      unfold StopHere
      refine LCg.CompSrc.ledger (by rfl) (by k_asm) (by k_asm) (List.mem_cons_of_mem _ (List.mem_cons_self ..)) (by rw [List.size_toArray, hhl, sizeLine_eq]; omega) ?_
      intro g4
      rw [hdl]
      refine compU_inv (fun i ys => ys = ((List.range i).map fun k => meansF (nm.take k) pt [0]).map Value.bool) (.inr ⟨_, List.mem_cons_of_mem _ (List.mem_cons_self ..), rfl, _, rfl⟩) ?step ?fin _ 0 [] (by rw [Nat.zero_add]) rfl
      case step =>
        intro j ys v I4 oI4 C4 oC4 D4 m4 h4 tk4 E4 hj hY hv hC hx F4 N4 off4 ne
        obtain ⟨x, tv, hx9, rfl⟩ := strs_get hA (show hs[j]? = some v by simpa using hv)
        have hx8 := heads_get hx9
        subst hx8
        k_steps
        unfold StopHere
        have e46 : Str.ofString "." = tx [46] := by decide +kernel
        rw [e46]
        refine' tells_use ?k1 ?k2 ?k3 ?k4 ?k5 ?kK (takesT_tells _ _ _ _ _ _ _ [46] pt (nm.take j) _ _ _ (.inl rfl) hstar (pat_okC hpok) hpb (Nat.le_trans (htk j) (by decide))) ?kd ?ku ?_; (case k1 => k_asm); (case k2 => k_asm); (case k3 => k_asm); (case k4 => k_asm); (case k5 => k_asm); (case kK => first | exact rfl | assumption); (case kd => ktr_room); (case ku => ktr_units)
        intro t9 h9 tk9 F9 N9
        (try dsimp only)
        (try k_fold)
        rw [bare_takes _ _ hstar]
        k_steps
        refine itemEnd (by assumption) (by assumption) (fun _ h => h) ?_
        exact bools_next hY
      case fin =>
        intro tk1 hY D4 h4 tk4 F4 N4 off4
        clear off4
        k_steps
        unfold StopHere
        subst hY
        refine ne_bools (bs := (List.range (nm.length + 1)).map fun k => meansF (nm.take k) pt [0]) ⟨_, (N4 _ (List.mem_cons_self ..)).1, rfl, _, rfl⟩ ⟨_, (N4 _ (List.mem_cons_of_mem _ (List.mem_cons_self ..))).1, rfl, _, rfl⟩ (by first | units_room | ktr_units) ?_
        replace N4 := news_tail N4
        k_steps
        unfold StopHere
        refine' tells_use ?k1 ?k2 ?k3 ?k4 ?k5 ?kK (escT_tells _ _ _ _ _ _ _ pt _ hpb) ?kd ?ku ?_; (case k1 => k_asm); (case k2 => k_asm); (case k3 => k_asm); (case k4 => k_asm); (case k5 => k_asm); (case kK => first | exact rfl | assumption); (case kd => ktr_room); (case ku => ktr_units)
        intro t9 h9 tk9 F9 N9
        (try dsimp only)
        (try k_fold)
        k_steps
        unfold StopHere
        rw [markL_eq]
        refine' tellsL_use ?k1 ?k2 ?k3 ?k4 ?k5 ?kK (translate_tells _ _ _ _ _ _ _ (escL pt) markL _ _ _ hec (esc_okC hpok)) ?kd ?ku ?kn ?_; (case k1 => k_asm); (case k2 => k_asm); (case k3 => k_asm); (case k4 => k_asm); (case k5 => k_asm); (case kK => first | exact rfl | assumption); (case kd => ktr_room); (case ku => ktr_units); (case kn => intro q9 h9; cases h9)
        intro l9 vs9 n9 h9 tk9 V9 F9 N9 lt9
        (try dsimp only)
        (try k_fold)
        (try k_lt lt9)
        obtain ⟨q1, q2, q3, q4, q5, q6, q7, q8, q9⟩ := lt9
        k_steps
        unfold StopHere
        have htx : (textOf markL (escL pt)).length ≤ 100000 := Nat.le_trans (text_bd (esc_star hstar) (by decide) heb) (by decide)
        refine' tellsN_use ?k1 ?k2 ?k3 ?k4 ?k5 ?kK (joinT_tells _ _ _ _ _ _ _ markL (escL pt) _ l9 vs9 n9 V9 hec htx) ?kd ?ku ?kn ?_; (case k1 => k_asm); (case k2 => k_asm); (case k3 => k_asm); (case k4 => k_asm); (case k5 => k_asm); (case kK => first | exact rfl | assumption); (case kd => ktr_room); (case ku => ktr_units); (case kn => intro q9 h9; rw [List.mem_singleton.mp h9]; exact List.mem_cons_self ..)
        intro t9 h9 tk9 F9 N9
        (try dsimp only)
        (try k_fold)
        replace N9 := news_tail N9
        clear q1 q2 q3 q4 q5 q6 q7 q8 q9
        k_steps
        unfold StopHere
        refine LCg.ListComp_U (F₀ := by k_asm) (by with_unfolding_all rfl) (by decide) (by rfl) (by decide) (by rfl) ?_
        k_steps
        unfold StopHere
        refine LCg.CompSrc.ledger (by rfl) (by k_asm) (by k_asm) (List.mem_cons_of_mem _ (List.mem_cons_self ..)) (by rw [List.size_toArray, hhl, sizeLine_eq]; omega) ?_
        intro g5
        rw [hdl]
        refine compU_inv (fun i ys => ys = ((List.range i).map fun k => meansF (nm.take k) pt [0]).map Value.bool) (.inr ⟨_, List.mem_cons_of_mem _ (List.mem_cons_self ..), rfl, _, rfl⟩) ?step ?fin _ 0 [] (by rw [Nat.zero_add]) rfl
        case step =>
          intro j ys v I5 oI5 C5 oC5 D5 m5 h5 tk5 E5 hj hY hv hC hx F5 N5 off5 ne
          obtain ⟨x, tv, hx9, rfl⟩ := strs_get hA (show hs[j]? = some v by simpa using hv)
          have hx8 := heads_get hx9
          subst hx8
          have hetl : (escL (nm.take j)).length ≤ 50 := Nat.le_trans (escL_len _) (Nat.mul_le_mul_left 5 (htk j))
          k_steps
          unfold StopHere
          refine' tells_use ?k1 ?k2 ?k3 ?k4 ?k5 ?kK (escT_tells _ _ _ _ _ _ _ (nm.take j) _ (Nat.le_trans (htk j) (by decide))) ?kd ?ku ?_; (case k1 => k_asm); (case k2 => k_asm); (case k3 => k_asm); (case k4 => k_asm); (case k5 => k_asm); (case kK => first | exact rfl | assumption); (case kd => ktr_room); (case ku => ktr_units)
          intro t9 h9 tk9 F9 N9
          (try dsimp only)
          (try k_fold)
          k_steps
          unfold StopHere
          rw [markL_eq]
          refine' tells_use ?k1 ?k2 ?k3 ?k4 ?k5 ?kK (takesT_tells _ _ _ _ _ _ _ markL (escL pt) (escL (nm.take j)) _ _ _ (.inr rfl) (esc_star hstar) (esc_okC hpok) heb (Nat.le_trans hetl (by decide))) ?kd ?ku ?_; (case k1 => k_asm); (case k2 => k_asm); (case k3 => k_asm); (case k4 => k_asm); (case k5 => k_asm); (case kK => first | exact rfl | assumption); (case kd => ktr_room); (case ku => ktr_units)
          intro t9 h9 tk9 F9 N9
          (try dsimp only)
          (try k_fold)
          rw [esc_takes _ _ hstar hpok (nm_take hnok j)]
          k_steps
          refine itemEnd (by assumption) (by assumption) (fun _ h => h) ?_
          exact bools_next hY
        case fin =>
          intro tk1 hY D5 h5 tk5 F5 N5 off5
          clear off5
          k_steps
          unfold StopHere
          subst hY
          refine eq_bools (bs := (List.range (nm.length + 1)).map fun k => meansF (nm.take k) pt [0]) ⟨_, (N5 _ (List.mem_cons_self ..)).1, rfl, _, rfl⟩ ⟨_, (N5 _ (List.mem_cons_of_mem _ (List.mem_cons_self ..))).1, rfl, _, rfl⟩ (by first | units_room | ktr_units) ?_
          k_steps)
end Mine
end
theorem PySem.Challenge.cw_ij0027_01_holds : PySem.Challenge.rw_ij0027_01.Holds := by
  exact Mine.law_x
