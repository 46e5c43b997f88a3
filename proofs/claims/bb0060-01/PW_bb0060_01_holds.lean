import PyProof.Rows.All
import Wide.All
import OpenK.AllK
import Wide.FinOn
import PyProof.ListMulRight
import Lean
import PySem.Challenge.RW_bb0060_01
open PySem PySem.W PyProof.Rows
set_option Elab.async false
set_option maxRecDepth 100000
set_option linter.all false
set_option linter.unusedSimpArgs false
set_option linter.unusedVariables false
/-! The law of decompress_G1. Bb: contracts of the functions (each once), the plain law over the eight curves, the law's walk. -/
set_option maxHeartbeats 0 in
open_top bb_hd for PySem.Challenge.rw_bb0060_01
open PySem.Spec PySem.Calls
namespace Bb
theorem code_pure {prog : Program} {w : World} {A A₀ : Around} {s : Shared} {K : Frag} {L : Addr} {h₀ base : Heap} {m mg mb : Str → Option Value} {p : Program} {loose : List Str} {mean : ExcName → Option Value}
    {env : Env} {outer : List Env} {R : Result → Shared → Prop} {name qual : Str} {params : Arguments} {body : List Stmt} {scope : Scope} {dV kV doc pm cdv ct oc : Value} {an od : Option Addr} {osl : Array (Option Value)} {f : Addr} {args : Args} {binds : List (Str × Value)}
    (B : Below A₀ base outer h₀) (F : Fr h₀ L s.heap m) (X₀ : K.In h₀) (T : Top p loose mean mg mb h₀) (hA : A.frames = some (env :: outer)) (hf : env.frame = some L) (hke : env.scope.kind = .function)
    (ho : K.lookup f = some ⟨oc, od, .func (fnOf name qual params body scope dV kV doc pm an cdv ct), osl⟩) (hcd : codeIn K cdv qual = true) (hroom : A.depth < recursionLimit)
    (hbind : BindsTo s (fnOf name qual params body scope dV kV doc pm an cdv ct) args binds) (hloc : ∀ y ∈ binds, scope.names.lookup y.1 = some .local)
    (h : ∀ L' h₁, Fr s.heap L' h₁ (fun y => binds.reverse.lookup y) → News s.heap L' h₁ [] → Below A base (env :: outer) s.heap → K.In s.heap → Top p loose mean mg mb s.heap →
      wpAny (model prog w) (A.deeper (envOf qual scope L' f cdv)) (execs body (envOf qual scope L' f cdv))
        (fun fl s' => LeaveK h₀ L m s.heap (fun r s' => s.heap.StaysIn s'.heap → R r s') (match fl with | .ret v => v | _ => .none) s')
        (fun e s' => wpAny (model prog w) (A.deeper (envOf qual scope L' f cdv)) (leaving (envOf qual scope L' f cdv) e) (fun _ s'' => R (.error e) s'') (fun e' s'' => R (.error e') s'') s')
        { s with heap := h₁, toks := s.toks + binds.length })
    (hco : scope.isCoroutine = false) (hgen : scope.isGenerator = false) (hk : scope.kind = .function)
    (hcell : ∀ x ∈ scope.names, x.2 ≠ .cell) : codeAny (model prog w) A (.call (.ref f) args) R s := by
  have X := X₀.keeps F.keep
  have B₁ := pushX B F hf hke
  have B₂ : Below A base (env :: outer) s.heap := ⟨hA, B₁.stays, B₁.frames⟩
  refine codeAny_call_def (fd := fnOf name qual params body scope dV kV doc pm an cdv ct) (body := body) (binds := binds) hroom (X _ _ ho) rfl (T.nolimit.keeps F.keep) (codeRec_of X hcd) rfl hbind hcell hloc (fun h₁ hns hk₁ => ?_) hco hgen hk
  refine wpAny_mono (h s.heap.objs.size h₁ ⟨hns, hk₁, Nat.le_refl _⟩ News.nil B₂ X (T.keeps F.keep)) (fun fl s' hl => ?_) fun _ _ y => y
  obtain ⟨L', m', news', F', N', k⟩ := hl
  obtain ⟨oL, es, ep, hL, hLd, hLk, hLf⟩ := F.ns
  refine k ⟨⟨oL, es, ep, F'.keep L oL hL, hLd, hLk, hLf⟩, fun b o e => F'.keep b o (F.keep b o e), F.above⟩ (fun p hp => ⟨(N' p hp).1, fun q => ?_, ?_⟩) (fun b o e => F'.keep b o e)
  · have := (N' p hp).2.2; rw [q, hL] at this; cases this
  · cases q : h₀.get? p.1 with
    | none => rfl
    | some o => have := (N' p hp).2.2; rw [F.keep _ _ q] at this; cases this
theorem news_join {h₀ h h' : Heap} {L : Addr} {news tl : List (Addr × Obj)} (N : News h₀ L h news) (st : h.StaysIn h') (N' : News h₀ L h' tl) : News h₀ L h' (tl ++ news) := by
  intro p hp
  rcases List.mem_append.mp hp with hp | hp
  · exact N' p hp
  · exact ⟨st _ _ (N p hp).1, (N p hp).2⟩
theorem inst_keeps {h h' : Heap} {x C : Addr} {ox : Obj} {od : Option Obj} (k : ∀ b o, h.get? b = some o → h'.get? b = some o) (I : W.InstAt h x ox C od) : W.InstAt h' x ox C od := by
  obtain ⟨a, b, c, d⟩ := I
  refine ⟨k _ _ a, b, c, ?_⟩
  revert d
  cases ox.dict <;> cases od <;> simp <;> intro d
  exact k _ _ d
theorem stays_out {h h' : Heap} (st : h.StaysIn h') : ∀ b o, h.get? b = some o → h'.get? b = some o := st
abbrev fqD (h1 h2 : Int) (t1 t2 : Tok) (p : Int) (tp : Tok) (n : Int) (tn : Tok) : Obj := dictOf [⟨h1, .str (Str.ofString "field_modulus") t1, .int p tp⟩, ⟨h2, .str (Str.ofString "n") t2, .int n tn⟩] 2
/-- a field element at x, over its dict dx -/
def IsFQ (h : Heap) (x : Addr) (p n : Int) : Prop := ∃ dx h1 h2 t1 t2 tp tn, W.InstAt h x (instObj 257 dx) 257 (some (fqD h1 h2 t1 t2 p tp n tn))
theorem IsFQ.keeps {h h' : Heap} {x : Addr} {p n : Int} (k : ∀ b o, h.get? b = some o → h'.get? b = some o) (I : IsFQ h x p n) : IsFQ h' x p n := by
  obtain ⟨dx, h1, h2, t1, t2, tp, tn, I⟩ := I
  exact ⟨dx, h1, h2, t1, t2, tp, tn, inst_keeps k I⟩
/-- a residue -/
def Rng (q n : Int) : Prop := 0 ≤ n ∧ n < q
theorem mul_small {q a b : Int} (hq : 0 < q ∧ q ≤ 19) (ha : Rng q a) (hb : Rng q b) : 0 ≤ a * b ∧ a * b ≤ 400 := by
  obtain ⟨a0, a1⟩ := ha
  obtain ⟨b0, b1⟩ := hb
  refine ⟨Int.mul_nonneg a0 b0, ?_⟩
  have h := Int.mul_le_mul (show a ≤ 19 by omega) (show b ≤ 19 by omega) b0 (by decide)
  omega
theorem fmod_is {k q : Int} (hq : 0 < q ∧ q ≤ 19) : k.fmod q = k % q := Int.fmod_eq_emod_of_nonneg k (by omega)
theorem fmod_mod {v k q : Int} (hq : 0 < q ∧ q ≤ 19) (h : v = k.fmod q % q) : v = k % q := by rw [h, fmod_is hq, Int.emod_emod_of_dvd _ (Int.dvd_refl q)]
theorem rng_fmod {k q : Int} (hq : 0 < q ∧ q ≤ 19) : Rng q (k.fmod q) := by
  rw [fmod_is hq]; exact ⟨Int.emod_nonneg _ (by omega), Int.emod_lt_of_pos _ hq.1⟩
abbrev AA (dp un : Nat) (gd : Option (List Code)) (env : Env) (outer : List Env) : Around := { handled := none, depth := dp, frames := some (env :: outer), guards := gd, units := un }
theorem aa_depth {dp un : Nat} {gd : Option (List Code)} {env : Env} {outer : List Env} : (AA dp un gd env outer).depth = dp := rfl
theorem aa_units {dp un : Nat} {gd : Option (List Code)} {env : Env} {outer : List Env} : (AA dp un gd env outer).units = un := rfl
/-- what every contract asks of the caller -/
structure Cx (w : World) (dp un : Nat) (A₀ : Around) (base h₀ : Heap) (outer : List Env) (env : Env) (L : Addr) (m : Str → Option Value) (news : List (Addr × Obj)) (s : Shared) (p : Program) (loose : List Str) (mean : ExcName → Option Value) (mg mb : Str → Option Value) (d : Nat) : Prop where
  B : Below A₀ base outer h₀
  F : Fr h₀ L s.heap m
  X : (bb_hd.heap_39 w.params).In h₀
  N : News h₀ L s.heap news
  T : Top p loose mean mg mb h₀
  hf : env.frame = some L
  hke : env.scope.kind = .function
  hd : dp + 2 * d < 1000
  hu : un + 8 * d < 9900
end Bb
namespace Bb
def WhEnd (I : Shared → Prop) (Q : Flow → Shared → Prop) (f : Flow) (s : Shared) : Prop := match f with
  | .next => I s
  | .cont => I s
  | .brk => Q .next s
  | .ret v => Q (.ret v) s
theorem whl_ind {prog : Program} {w : World} {A : Around} {E : Value → Shared → Prop} {env : Env} {test : PySem.Expr} {body orelse : List Stmt} {pos : Pos} {Q : Flow → Shared → Prop} {Inv : Nat → Shared → Prop}
    (hE : PassesOwn (model prog w) A env E)
    (step : ∀ k s, Inv k s → wpAny (model prog w) A (isTrue test env (eval test env)) (fun b s₂ => WhlIf b (wpAny (model prog w) A (execs body env) (WhEnd (fun s' => ∃ k', k' < k ∧ Inv k' s') Q) E s₂) (wpAny (model prog w) A (execs orelse env) Q E s₂)) E s)
    {k : Nat} {s : Shared} (h : Inv k s) : wpAny (model prog w) A (exec (.While test body orelse pos) env) Q E s := by
  refine whl_start 0 ?_
  have all : ∀ n k s, k < n → Inv k s → ∀ j, WhlRest prog w A E env test body orelse Q j s := by
    intro n
    induction n with
    | zero => intro k s hk; exact absurd hk (Nat.not_lt_zero _)
    | succ n ih =>
      intro k s hk hi j
      have t := whl_turn (k := 0) hE (wpAny_mono (step k s hi) (fun b s₂ hb => by
        revert hb
        cases b with
        | true =>
          intro hb
          refine WhlIf.yes rfl ?_
          have hb' : wpAny (model prog w) A (execs body env) (WhEnd (fun s' => ∃ k', k' < k ∧ Inv k' s') Q) E s₂ := by
            unfold WhlIf at hb; rwa [if_pos rfl] at hb
          refine wpAny_mono hb' (fun f s' hf => ?_) fun _ _ y => y
          cases f with
          | next => obtain ⟨k', hk', hi'⟩ := hf; exact ih k' s' (Nat.lt_of_lt_of_le hk' (Nat.le_of_lt_succ hk)) hi' 0
          | cont => obtain ⟨k', hk', hi'⟩ := hf; exact ih k' s' (Nat.lt_of_lt_of_le hk' (Nat.le_of_lt_succ hk)) hi' 0
          | brk => exact hf
          | ret v => exact hf
        | false =>
          intro hb
          refine WhlIf.no rfl ?_
          have hb' : wpAny (model prog w) A (execs orelse env) Q E s₂ := by
            unfold WhlIf at hb; rwa [if_neg Bool.false_ne_true] at hb
          exact hb') fun _ _ y => y)
      exact t
  exact all (k + 1) k s (Nat.lt_succ_self _) h 0
theorem fr_kst {h₀ h : Heap} {L : Addr} {ps : List (Str × Value)} {stored : List Str} {m₀ m₁ : Str → Option Value} (F : Fr h₀ L h m₁) (h1 : ∀ p ∈ ps, m₁ p.1 = some p.2) (h2 : ∀ z, (∀ p ∈ ps, z ≠ p.1) → stored.contains z = false → m₁ z = m₀ z) :
    Fr h₀ L h (kstB (fun z => if stored.contains z then m₁ z else m₀ z) ps) := by
  have em : kstB (fun z => if stored.contains z then m₁ z else m₀ z) ps = m₁ := by
    funext y
    refine kstB_eq h1 fun hn => ?_
    show (if stored.contains y = true then m₁ y else m₀ y) = m₁ y
    cases h3 : stored.contains y with
    | true => simp
    | false => simp only [Bool.false_eq_true, if_false]; exact (h2 y hn h3).symm
  rw [em]; exact F
/-- the end of a turn: the named letters, all else as it stood -/
def KEnd {σ : Type} (g : Heap) (L : Addr) (ps : σ → List (Str × Value)) (stored : List Str) (m₀ : Str → Option Value) (news : List (Addr × Obj)) (P : σ → Prop) (s₀ s : Shared) : Prop :=
  ∃ h' tk' m' news' c, s = { s₀ with heap := h', toks := tk' } ∧ Fr g L h' m' ∧ News g L h' news' ∧ (∀ p ∈ news, p ∈ news') ∧ (∀ p ∈ ps c, m' p.1 = some p.2) ∧ (∀ z, (∀ p ∈ ps c, z ≠ p.1) → stored.contains z = false → m' z = m₀ z) ∧ P c
theorem kend {σ : Type} {g h' : Heap} {L : Addr} {ps : σ → List (Str × Value)} {stored : List Str} {m₀ m' : Str → Option Value} {news news' : List (Addr × Obj)} {P : σ → Prop} {s₀ : Shared} {tk' : Nat} (c : σ)
    (F : Fr g L h' m') (N : News g L h' news') (hn : ∀ p ∈ news, p ∈ news') (hk : ∀ p ∈ ps c, m' p.1 = some p.2) (hr : ∀ z, (∀ p ∈ ps c, z ≠ p.1) → stored.contains z = false → m' z = m₀ z) (hp : P c) :
    KEnd g L ps stored m₀ news P s₀ { s₀ with heap := h', toks := tk' } := ⟨h', tk', m', news', c, rfl, F, N, hn, hk, hr, hp⟩
theorem whl_st {prog : Program} {w : World} {A : Around} {E : Value → Shared → Prop} {env : Env} {test : PySem.Expr} {body orelse : List Stmt} {pos : Pos} {Q : Flow → Shared → Prop} {s : Shared} {g : Heap} {L : Addr} {m₀ : Str → Option Value} {news : List (Addr × Obj)}
    {σ : Type} (ps : σ → List (Str × Value)) (stored : List Str) (P : Nat → σ → Prop) (k₀ : Nat) (c₀ : σ)
    (hE : PassesOwn (model prog w) A env E) (F : Fr g L s.heap m₀) (N : News g L s.heap news) (hk : ∀ p ∈ ps c₀, m₀ p.1 = some p.2) (hp : P k₀ c₀)
    (turn : ∀ (k : Nat) (c : σ) (u : Str → Option Value) (h' : Heap) (tk' : Nat), P k c → Fr g L h' (kstB (fun z => if stored.contains z then u z else m₀ z) (ps c)) → News g L h' news →
      wpAny (model prog w) A (isTrue test env (eval test env)) (fun b s₂ => WhlIf b (wpAny (model prog w) A (execs body env) (WhEnd (KEnd g L ps stored m₀ news (fun c' => ∃ k', k' < k ∧ P k' c') { s with heap := h', toks := tk' }) Q) E s₂) (wpAny (model prog w) A (execs orelse env) Q E s₂)) E { s with heap := h', toks := tk' }) :
    wpAny (model prog w) A (exec (.While test body orelse pos) env) Q E s := by
  refine whl_ind (Inv := fun k s' => ∃ (h' : Heap) (tk' : Nat) (c : σ) (u : Str → Option Value), s' = { s with heap := h', toks := tk' } ∧ P k c ∧ Fr g L h' (kstB (fun z => if stored.contains z then u z else m₀ z) (ps c)) ∧ News g L h' news) (k := k₀) hE ?_ ?_
  · rintro k _ ⟨h', tk', c, u, rfl, hP, F', N'⟩
    refine wpAny_mono (turn k c u h' tk' hP F' N') (fun b s₂ hb => ?_) fun _ _ y => y
    cases b with
    | false => exact hb
    | true =>
      unfold WhlIf at hb ⊢
      rw [if_pos rfl] at hb ⊢
      refine wpAny_mono hb (fun f s' hf => ?_) fun _ _ y => y
      have conv : ∀ s', KEnd g L ps stored m₀ news (fun c' => ∃ k', k' < k ∧ P k' c') { s with heap := h', toks := tk' } s' → ∃ k', k' < k ∧ ∃ (h' : Heap) (tk' : Nat) (c : σ) (u : Str → Option Value), s' = { s with heap := h', toks := tk' } ∧ P k' c ∧ Fr g L h' (kstB (fun z => if stored.contains z then u z else m₀ z) (ps c)) ∧ News g L h' news := by
        rintro _ ⟨h'', tk'', m', news', c', rfl, F'', N'', hn, hk', hr, k', hlt, hP'⟩
        exact ⟨k', hlt, h'', tk'', c', m', rfl, hP', fr_kst F'' hk' hr, fun p hp => N'' p (hn p hp)⟩
      cases f with
      | next => exact conv _ hf
      | cont => exact conv _ hf
      | brk => exact hf
      | ret v => exact hf
  · exact ⟨s.heap, s.toks, c₀, m₀, rfl, hp, fr_kst F hk (fun _ _ _ => rfl), N⟩
theorem whlif_dec {p : Prop} [Decidable p] {T F : Prop} (h1 : p → T) (h2 : ¬ p → F) : WhlIf (decide p) T F := by
  by_cases h : p
  · exact WhlIf.yes (decide_eq_true h) (h1 h)
  · exact WhlIf.no (decide_eq_false h) (h2 h)
/-- the inverse's loop, as plain ints -/
def loopR : Nat → Int → Int → Int → Int → Option Int
  | 0, _, _, _, _ => none
  | k + 1, lm, low, hm, high => if 1 < low then (if -100 < lm ∧ lm < 100 ∧ low < 100 then loopR k (hm - lm * high.fdiv low) (high - low * high.fdiv low) lm low else none) else some lm
def inv (q a : Int) : Int := a ^ (q - 2).toNat % q
theorem loop7 : ∀ a : Fin 7, a.val = 0 ∨ (loopR 12 1 a.val 0 7).map (fun r => r.fmod 7) = some (inv 7 a.val) := by decide +kernel
theorem loop19 : ∀ a : Fin 19, a.val = 0 ∨ (loopR 12 1 a.val 0 19).map (fun r => r.fmod 19) = some (inv 19 a.val) := by decide +kernel
theorem loop_inv {q a : Int} (hq : q = 7 ∨ q = 19) (ha : Rng q a) (h0 : a ≠ 0) : ∃ R, loopR 12 1 a 0 q = some R ∧ R.fmod q = inv q a := by
  obtain ⟨n, rfl⟩ := Int.eq_ofNat_of_zero_le ha.1
  have h1 := ha.2
  rcases hq with rfl | rfl
  · have h := (loop7 ⟨n, by omega⟩).resolve_left (fun e => h0 (by simp at e; omega))
    obtain ⟨R, hR, e⟩ := Option.map_eq_some_iff.mp h
    exact ⟨R, hR, e⟩
  · have h := (loop19 ⟨n, by omega⟩).resolve_left (fun e => h0 (by simp at e; omega))
    obtain ⟨R, hR, e⟩ := Option.map_eq_some_iff.mp h
    exact ⟨R, hR, e⟩
theorem q_bool {Q : Value → Shared → Prop} {b b' : Bool} {s : Shared} (e : b = b') (h : Q (.bool b') s) : Q (.bool b) s := e ▸ h
/-- a point's three coordinates at a tuple -/
def IsPt (h : Heap) (t : Addr) (q a b c : Int) : Prop := ∃ x y z, IsTup h t #[.ref x, .ref y, .ref z] ∧ IsFQ h x q a ∧ IsFQ h y q b ∧ IsFQ h z q c
theorem isfq_of {h : Heap} {x dx : Addr} {h1 h2 : Int} {t1 t2 tp tn : Tok} {p n : Int} (I : W.InstAt h x (instObj 257 dx) 257 (some (fqD h1 h2 t1 t2 p tp n tn))) : IsFQ h x p n := ⟨_, _, _, _, _, _, _, I⟩
theorem ispt_of {h : Heap} {t x y z : Addr} {q a b c : Int} (It : IsTup h t #[.ref x, .ref y, .ref z]) (I0 : IsFQ h x q a) (I1 : IsFQ h y q b) (I2 : IsFQ h z q c) : IsPt h t q a b c := ⟨_, _, _, It, I0, I1, I2⟩
theorem IsPt.keeps {h h' : Heap} {t : Addr} {q a b c : Int} (k : ∀ b o, h.get? b = some o → h'.get? b = some o) (I : IsPt h t q a b c) : IsPt h' t q a b c := by
  obtain ⟨x, y, z, It, I0, I1, I2⟩ := I
  exact ⟨x, y, z, It.keeps k, I0.keeps k, I1.keeps k, I2.keeps k⟩
def dblF (q x y z : Int) : Int × Int × Int :=
  let W := x * 3 % q * x % q
  let S := y * z % q
  let B := x * y % q * S % q
  let H := (W * W % q - B * 8 % q) % q
  let S2 := S * S % q
  (H * 2 % q * S % q, (W * ((B * 4 % q - H) % q) % q - y * 8 % q * y % q * S2 % q) % q, S * 8 % q * S2 % q)
def genF (q x1 y1 z1 x2 y2 z2 : Int) : Int × Int × Int :=
  let U1 := y2 * z1 % q
  let U2 := y1 * z2 % q
  let V1 := x2 * z1 % q
  let V2 := x1 * z2 % q
  let U := (U1 - U2) % q
  let V := (V1 - V2) % q
  let Vs := V * V % q
  let VsV := Vs * V2 % q
  let Vc := V * Vs % q
  let W := z1 * z2 % q
  let A := ((U * U % q * W % q - Vc) % q - VsV * 2 % q) % q
  (V * A % q, (U * ((VsV - A) % q) % q - Vc * U2 % q) % q, Vc * W % q)
def addF (q x1 y1 z1 x2 y2 z2 : Int) : Int × Int × Int :=
  if z2 = 0 then (x1, y1, z1) else if z1 = 0 then (x2, y2, z2) else
  if x2 * z1 % q = x1 * z2 % q then (if y2 * z1 % q = y1 * z2 % q then dblF q x1 y1 z1 else (1, 1, 0)) else genF q x1 y1 z1 x2 y2 z2
theorem addF_p1 {q a b c a₂ b₂ c₂ : Int} (h : c₂ = 0) : addF q a b c a₂ b₂ c₂ = (a, b, c) := by unfold addF; rw [if_pos h]
theorem addF_p2 {q a b c a₂ b₂ c₂ : Int} (h : c = 0) (h2 : c₂ ≠ 0) : addF q a b c a₂ b₂ c₂ = (a₂, b₂, c₂) := by unfold addF; rw [if_neg h2, if_pos h]
theorem addF_dbl {q a b c a₂ b₂ c₂ : Int} (h : c ≠ 0) (h2 : c₂ ≠ 0) (h3 : a₂ * c % q = a * c₂ % q) (h4 : b₂ * c % q = b * c₂ % q) : addF q a b c a₂ b₂ c₂ = dblF q a b c := by unfold addF; rw [if_neg h2, if_neg h, if_pos h3, if_pos h4]
theorem addF_inf {q a b c a₂ b₂ c₂ : Int} (h : c ≠ 0) (h2 : c₂ ≠ 0) (h3 : a₂ * c % q = a * c₂ % q) (h4 : b₂ * c % q ≠ b * c₂ % q) : addF q a b c a₂ b₂ c₂ = (1, 1, 0) := by unfold addF; rw [if_neg h2, if_neg h, if_pos h3, if_neg h4]
theorem addF_gen {q a b c a₂ b₂ c₂ : Int} (h : c ≠ 0) (h2 : c₂ ≠ 0) (h3 : a₂ * c % q ≠ a * c₂ % q) : addF q a b c a₂ b₂ c₂ = genF q a b c a₂ b₂ c₂ := by unfold addF; rw [if_neg h2, if_neg h, if_neg h3]
theorem fdiv_pos {v q : Int} (hq : 0 < q ∧ q ≤ 19) : v.fdiv q = v / q := Int.fdiv_eq_ediv_of_nonneg v (Int.le_of_lt hq.1)
theorem flag_small {v q : Int} (hv : Rng q v) (hq : 0 < q ∧ q ≤ 19) : 0 ≤ (v * 2).fdiv q ∧ (v * 2).fdiv q ≤ 1 := by
  rw [fdiv_pos hq]
  have h1 : v * 2 / q < 2 := Int.ediv_lt_of_lt_mul hq.1 (by have := hv.2; omega)
  have h0 : 0 ≤ v * 2 / q := Int.ediv_nonneg (by have := hv.1; omega) (Int.le_of_lt hq.1)
  omega
theorem flag_mul {v q b : Int} (hv : Rng q v) (hq : 0 < q ∧ q ≤ 19) : IntMulOk ((v * 2).fdiv q) b := by
  have h := flag_small hv hq
  exact IntMulOk.of_left (intBits_le_64 (by omega) (by omega))
theorem p381 : (2 : Int) ^ 381 = 4925250774549309901534880012517951725634967408808180833493536675530715221437151326426783281860614455100828498788352 := by decide +kernel
theorem p382 : (2 : Int) ^ 382 = 9850501549098619803069760025035903451269934817616361666987073351061430442874302652853566563721228910201656997576704 := by decide +kernel
theorem p383 : (2 : Int) ^ 383 = 19701003098197239606139520050071806902539869635232723333974146702122860885748605305707133127442457820403313995153408 := by decide +kernel
/-- the binary digit k of z -/
def bitZ (z : Int) (k : Nat) : Bool := decide (z / 2 ^ k % 2 = 1)
theorem bit_is {z : Int} (k : Nat) : (Builtin.bitAnd (z.fdiv (2 ^ k)) 1 != 0) = bitZ z k := by
  have hp : (0 : Int) < 2 ^ k := Int.pow_pos (by decide)
  have h1 : z.fdiv (2 ^ k) = z / 2 ^ k := Int.fdiv_eq_ediv_of_nonneg z (Int.le_of_lt hp)
  have h2 : Builtin.bitAnd (z / 2 ^ k) 1 = z / 2 ^ k % 2 := kbt_mask (z / 2 ^ k) 1
  rw [h1, h2]
  unfold bitZ
  have h3 := Int.emod_nonneg (z / 2 ^ k) (show (2 : Int) ≠ 0 by decide)
  have h4 := Int.emod_lt_of_pos (z / 2 ^ k) (show (0 : Int) < 2 by decide)
  generalize z / 2 ^ k % 2 = r at h3 h4
  rcases (show r = 0 ∨ r = 1 by omega) with rfl | rfl <;> rfl
theorem fmod_big {z b : Int} (hb : 0 < b) : z.fmod b = z % b := Int.fmod_eq_emod_of_nonneg z (Int.le_of_lt hb)
def cmpF (q a b c : Int) : Int := if c = 0 then 2 ^ 383 + 2 ^ 382 else a * inv q c % q + (b * inv q c % q * 2) / q * 2 ^ 381 + 2 ^ 383
theorem one_mod {q : Int} (hp : q = 7 ∨ q = 19) : 1 % q = 1 := by rcases hp with rfl | rfl <;> decide
theorem inv_zero {q : Int} (hq : q = 7 ∨ q = 19) : inv q 0 = 0 := by rcases hq with rfl | rfl <;> decide
end Bb
namespace Bb
theorem int_mul_obj_call {prog : Program} {w : World} {A : Around} {E : Value → Shared → Prop} {s : Shared} {x C dx : Addr} {k : Int} {t : Tok} {Q : Value → Shared → Prop}
    (hx : s.heap.get? x = some (instObj C dx)) (h : Q .notImplemented s) : wpAny (model prog w) A (call (.builtin "int.__mul__") [.int k t, .ref x]) (fun v s' => v = .notImplemented ∧ Q v s') E s := by
  have h3 := PyProof.Rows.args_int_mul (.int k t) (.ref x)
  have hc : wpAny (model prog w) A.in1 (Builtin.«int.__mul__» ⟨[.int k t, .ref x], []⟩) (fun fin s' => ∃ v, fin = .done (.ret v) ∧ v = .notImplemented ∧ Q v s') E s := by
    obtain ⟨hp, g, d, tk, os⟩ := s
    wp_walk
    exact ⟨_, rfl, rfl, h⟩
  exact @wpAny_call_entry prog w A E s "int" (PySem.dunder "mul") "int.__mul__" Builtin.«int.__mul__» (.int k t) [.ref x] (fun v s' => v = .notImplemented ∧ Q v s') PyProof.Rows.slot_int_mul (typeIs_int s k t) PyProof.Rows.entry_int_mul hc h3
theorem tm_dec {prog : Program} {w : World} {A : Around} {E : Value → Shared → Prop} {s : Shared} {x C dx : Addr} {k : Int} {t : Tok} {Q : Option Value → Shared → Prop}
    (hx : s.heap.get? x = some (instObj C dx)) (hq : Q none s) : wpAny (model prog w) A (tryMethod (.int k t) (PySem.dunder "mul") (.ref x)) Q E s := by
  have hc : wpAny (model prog w) A (call (.builtin "int.__mul__") [.int k t, .ref x]) (fun v s' => v = .notImplemented ∧ Q none s') E s := @int_mul_obj_call prog w A E s x C dx k t (fun _ s' => Q none s') hx hq
  exact @wpAny_tryMethod_declines (model prog w) A E s (.int k t) (.ref x) "int" (PySem.dunder "mul") "int.__mul__" Q (typeIs_int s k t) PyProof.Rows.slot_int_mul hc
set_option maxHeartbeats 4000000 in
theorem int_mul_fq {prog : Program} {w : World} {A : Around} {E : Value → Shared → Prop} {s : Shared} {K : Frag} {x C L f g dx : Addr} {h₀ : Heap} {m : Str → Option Value} {od : Option Obj} {Q : Value → Shared → Prop} {k : Int} {t : Tok}
    (F : Fr h₀ L s.heap m) (X₀ : K.In h₀) (I : W.InstAt s.heap x (instObj C dx) C od) (hc : selfFirst K C = true)
    (hs : findIn K (.ref C) (PySem.dunder "mul") = some (some (.ref g))) (hr : findIn K (.ref C) (dunderR "mul") = some (some (.ref f))) (hf : isFn K (.ref f) = true) (hsub : subIn K (.ref C) (.type "int") = some false)
    (h : wpAny (model prog w) A (call (.ref f) [.ref x, .int k t]) (W.CmpBack Q) E s) : wpAny (model prog w) A (binaryOp .Mult (.int k t) (.ref x)) Q E s := by
  have X := X₀.keeps F.keep
  obtain ⟨cd, rest, hcd, hm⟩ := ksp_first hc
  have one := ksp_try X I hr hf h
  have hx := I.at_
  have L1 : Looks (model prog w) s.heap (typeOf (.ref x)) (.ref C) := I.type
  have L3 : Looks (model prog w) s.heap (fillsNumberSlot (.ref C) "mul") true := fills_K X hcd hm hs
  have L5 : Looks (model prog w) s.heap (isSubtype (.ref C) (.type "int")) false := looks_subIn X hsub
  have hne : (Value.type "int" == Value.ref C) = false := Bool.eq_false_iff.mpr fun q => by cases beq_iff_eq.mp q
  unfold binaryOp
  refine wpAny_holding (wpAny_bind ?_)
  show wpAny _ _ (binaryOp1 "mul" _ _) _ _ _
  unfold binaryOp1
  have L0 : Looks (model prog w) s.heap (typeOf (.int k t)) (.type "int") := Looks.of_pure rfl
  have L2 : Looks (model prog w) s.heap (fillsNumberSlot (.type "int") "mul") true := Looks.of_pure PyProof.Rows.fills_int_mul
  have L7 : Looks (model prog w) s.heap (numberSlotInPython (.type "int") "mul") false := Looks.of_pure rfl
  refine wpAny_bind (L0.here (wpAny_bind (L1.here (wpAny_bind (L2.here ?_)))))
  rw [hne]
  obtain ⟨hh, gg, d, tt, os⟩ := s
  ksp_lk
  refine tm_dec hx ?_
  ksp_lk
  refine wpAny_mono one (fun r s' hr' => ?_) fun _ _ e => e
  obtain ⟨v, rfl, hq⟩ := hr'
  ksp_lk
  exact hq
end Bb
namespace Bb
theorem kind_pow : builtinKind "pow" = none := by decide +kernel
theorem plain_pow : plainId "pow" = true := by decide +kernel
theorem entry_pow : entryFor table "pow" = some Builtin.«pow» := entryFor_of_tree (by kernel_rfl)
theorem args_pow3 (a b c : Value) : argsOk "pow" ⟨[a, b, c], []⟩ := by unfold argsOk; kernel_rfl
theorem slot_pow : Slot "int" (Str.ofString "__pow__") "int.__pow__" :=
  .of (owner := "int") (n := "__pow__") (by rw [typeLookup_type, builtinLookup_eq_fast]; kernel_rfl) (by decide +kernel) (by decide +kernel) (by decide +kernel)
    (by first | exact .inl (by decide +kernel) | exact .inr (by decide +kernel)) (by rw [isSubtype_type]; kernel_rfl)
theorem entry_ipow : entryFor table "int.__pow__" = some Builtin.«int.__pow__» := entryFor_of_tree (by kernel_rfl)
theorem args_ipow3 (a b c : Value) : argsOk "int.__pow__" ⟨[a, b, c], []⟩ := by unfold argsOk; kernel_rfl
set_option maxHeartbeats 4000000 in
theorem ipow_run {prog : Program} {w : World} {A : Around} {E : Value → Shared → Prop} {s : Shared} {b e m : Int} {t u v : Tok} {Q : Value → Shared → Prop}
    (hm : m = 7 ∨ m = 19) (he : 0 ≤ e)
    (h : Q (.int ((Builtin.powMod (b % m).toNat e.natAbs m.natAbs : Nat) : Int) s.toks) { s with toks := s.toks + 1 }) :
    wpAny (model prog w) A (call (.builtin "int.__pow__") [.int b t, .int e u, .int m v]) Q E s := by
  have hc : wpAny (model prog w) A.in1 (Builtin.«int.__pow__» ⟨[.int b t, .int e u, .int m v], []⟩) (fun fin s' => ∃ v, fin = .done (.ret v) ∧ Q v s') E s := by
    obtain ⟨hp, g, d, tk, os⟩ := s
    have he' : ¬ e < 0 := by omega
    rcases hm with rfl | rfl
    · wp_walk
      exact ⟨_, rfl, h⟩
    · wp_walk
      exact ⟨_, rfl, h⟩
  exact @wpAny_call_entry prog w A E s "int" (Str.ofString "__pow__") "int.__pow__" Builtin.«int.__pow__» (.int b t) [.int e u, .int m v] Q slot_pow (typeIs_int s b t) entry_ipow hc (args_ipow3 _ _ _)
theorem type_int_pow : typeLookup (.type "int") (Str.ofString "__pow__") = pure (some (.builtin "int.__pow__")) := slot_pow.lookup
set_option maxHeartbeats 4000000 in
theorem pow3 {prog : Program} {w : World} {A : Around} {E : Value → Shared → Prop} {s : Shared} {b e m : Int} {t u v : Tok} {Q : Value → Shared → Prop}
    (hm : m = 7 ∨ m = 19) (he : 0 ≤ e)
    (h : Q (.int ((Builtin.powMod (b % m).toNat e.natAbs m.natAbs : Nat) : Int) s.toks) { s with toks := s.toks + 1 }) :
    wpAny (model prog w) A (call (.builtin "pow") [.int b t, .int e u, .int m v]) Q E s := by
  have hc : wpAny (model prog w) A.in1 (Builtin.«pow» ⟨[.int b t, .int e u, .int m v], []⟩) (fun fin s' => ∃ v, fin = .done (.ret v) ∧ Q v s') E s := by
    have hs : ∀ Q' : Option Value → Shared → Prop, Q' (some (.int ((Builtin.powMod (b % m).toNat e.natAbs m.natAbs : Nat) : Int) s.toks)) { s with toks := s.toks + 1 } → wpAny (model prog w) A.in1 (callSpecial? (.int b t) (Str.ofString "__pow__") [.int e u, (some (Value.int m v)).getD Value.none]) Q' E s := fun Q' hq => by
      have h1 : wpAny (model prog w) A.in1 (call (.builtin "int.__pow__") [.int b t, .int e u, .int m v]) (fun v s' => Q' (some v) s') E s := ipow_run (Q := fun v s' => Q' (some v) s') hm he hq
      exact @wpAny_callSpecial?_slot (model prog w) A.in1 E s (.int b t) "int" (Str.ofString "__pow__") "int.__pow__" [.int e u, .int m v] [] Q' (typeIs_int s b t) slot_pow h1
    have hl := type_int_pow
    obtain ⟨hp, g, d, tk, os⟩ := s
    wp_walk using hs
    exact ⟨_, rfl, h⟩
  exact @call_function_entry prog w A E s "pow" Builtin.«pow» [.int b t, .int e u, .int m v] Q kind_pow plain_pow entry_pow (args_pow3 _ _ _) hc
/-- pow with a modulus, as the model reckons it -/
def powM (b e m : Int) : Int := ((Builtin.powMod (b % m).toNat e.natAbs m.natAbs : Nat) : Int)
theorem powM7 : ∀ b : Fin 7, ∀ e : Fin 20, Builtin.powMod b.val e.val 7 = b.val ^ e.val % 7 := by decide +kernel
theorem powM19 : ∀ b : Fin 19, ∀ e : Fin 20, Builtin.powMod b.val e.val 19 = b.val ^ e.val % 19 := by decide +kernel
theorem powM_rng {b e m : Int} (hm : m = 7 ∨ m = 19) (he : 0 ≤ e ∧ e < 20) : Rng m (powM b e m) ∧ powM b e m = (b % m) ^ e.toNat % m := by
  obtain ⟨n, rfl⟩ := Int.eq_ofNat_of_zero_le he.1
  have hn : n < 20 := by omega
  rcases hm with rfl | rfl
  · have h0 := Int.emod_nonneg b (show (7 : Int) ≠ 0 by decide)
    have h1 := Int.emod_lt_of_pos b (show (0 : Int) < 7 by decide)
    obtain ⟨c, hc⟩ := Int.eq_ofNat_of_zero_le h0
    have h := powM7 ⟨c, by omega⟩ ⟨n, hn⟩
    unfold powM
    rw [hc]
    show Rng 7 ((Builtin.powMod c n 7 : Nat) : Int) ∧ ((Builtin.powMod c n 7 : Nat) : Int) = (c : Int) ^ n % 7
    rw [show Builtin.powMod c n 7 = c ^ n % 7 from h]
    have e1 : ((c ^ n % 7 : Nat) : Int) = (c : Int) ^ n % 7 := by simp
    rw [e1]
    exact ⟨⟨Int.emod_nonneg _ (by decide), Int.emod_lt_of_pos _ (by decide)⟩, rfl⟩
  · have h0 := Int.emod_nonneg b (show (19 : Int) ≠ 0 by decide)
    have h1 := Int.emod_lt_of_pos b (show (0 : Int) < 19 by decide)
    obtain ⟨c, hc⟩ := Int.eq_ofNat_of_zero_le h0
    have h := powM19 ⟨c, by omega⟩ ⟨n, hn⟩
    unfold powM
    rw [hc]
    show Rng 19 ((Builtin.powMod c n 19 : Nat) : Int) ∧ ((Builtin.powMod c n 19 : Nat) : Int) = (c : Int) ^ n % 19
    rw [show Builtin.powMod c n 19 = c ^ n % 19 from h]
    have e1 : ((c ^ n % 19 : Nat) : Int) = (c : Int) ^ n % 19 := by simp
    rw [e1]
    exact ⟨⟨Int.emod_nonneg _ (by decide), Int.emod_lt_of_pos _ (by decide)⟩, rfl⟩
theorem fdiv_nn {q : Int} (hm : q = 7 ∨ q = 19) : 0 ≤ (q + 1).fdiv 4 ∧ (q + 1).fdiv 4 < 20 := by rcases hm with rfl | rfl <;> decide
theorem pow_c {prog : Program} {w : World} {A : Around} {E : Value → Shared → Prop} {s : Shared} {b e m : Int} {t u v : Tok} {Q : Value → Shared → Prop}
    (hm : m = 7 ∨ m = 19) (he : 0 ≤ e ∧ e < 20) (h : ∀ r, r = powM b e m → Rng m r → Q (.int r s.toks) { s with toks := s.toks + 1 }) :
    wpAny (model prog w) A (call (.builtin "pow") [.int b t, .int e u, .int m v]) Q E s := pow3 hm he.1 (h _ rfl (powM_rng hm he).1)
end Bb
namespace Bb
/-- 2 ^ 381, written -/
abbrev P381 : Int := 4925250774549309901534880012517951725634967408808180833493536675530715221437151326426783281860614455100828498788352
theorem fmod381 (z : Int) : z.fmod 4925250774549309901534880012517951725634967408808180833493536675530715221437151326426783281860614455100828498788352 = z % 2 ^ 381 := by rw [p381, fmod_big (by decide)]
theorem fmod381_nn (z : Int) : 0 ≤ z.fmod 4925250774549309901534880012517951725634967408808180833493536675530715221437151326426783281860614455100828498788352 := by
  rw [fmod_big (by decide)]; exact Int.emod_nonneg _ (by decide)
theorem big_text (z : Int) : (Str.empty ++ Str.ofString "Point value should be less than field modulus. Got " ++ Str.ofString (toString (z.fmod 4925250774549309901534880012517951725634967408808180833493536675530715221437151326426783281860614455100828498788352))).length ≤ sizeLine := by
  have h0 := fmod381_nn z
  have h1 : z.fmod 4925250774549309901534880012517951725634967408808180833493536675530715221437151326426783281860614455100828498788352 < 4925250774549309901534880012517951725634967408808180833493536675530715221437151326426783281860614455100828498788352 := by
    rw [fmod_big (by decide)]; exact Int.emod_lt_of_pos _ (by decide)
  generalize z.fmod 4925250774549309901534880012517951725634967408808180833493536675530715221437151326426783281860614455100828498788352 = x at h0 h1
  have h2 : x.natAbs < 10 ^ 116 := by
    have h3 : x.natAbs < 4925250774549309901534880012517951725634967408808180833493536675530715221437151326426783281860614455100828498788352 := by omega
    exact Nat.lt_trans h3 (by decide +kernel)
  have h4 := int_text_length_le10 (by decide) h2
  rw [Str.empty_append, Str.length_append, PySem.ofString_length, PySem.ofString_length, sizeLine_eq]
  have h5 : ("Point value should be less than field modulus. Got " : String).length = 51 := by decide +kernel
  omega
def FqIn (l : List (Addr × Obj)) (x : Addr) (q n : Int) : Prop := ∃ dx h1 h2 t1 t2 tp tn, (x, instObj 257 dx) ∈ l ∧ (dx, fqD h1 h2 t1 t2 q tp n tn) ∈ l
def PtIn (l : List (Addr × Obj)) (D : Addr) (q a b c : Int) : Prop := ∃ x y z, (D, ({ cls := .type "tuple", data := .seq #[.ref x, .ref y, .ref z] } : Obj)) ∈ l ∧ FqIn l x q a ∧ FqIn l y q b ∧ FqIn l z q c
theorem FqIn.mono {l l' : List (Addr × Obj)} {x : Addr} {q n : Int} (h : FqIn l x q n) (hs : ∀ p ∈ l, p ∈ l') : FqIn l' x q n := by
  obtain ⟨dx, h1, h2, t1, t2, tp, tn, a, b⟩ := h
  exact ⟨dx, h1, h2, t1, t2, tp, tn, hs _ a, hs _ b⟩
theorem PtIn.mono {l l' : List (Addr × Obj)} {D : Addr} {q a b c : Int} (h : PtIn l D q a b c) (hs : ∀ p ∈ l, p ∈ l') : PtIn l' D q a b c := by
  obtain ⟨x, y, z, ht, h1, h2, h3⟩ := h
  exact ⟨x, y, z, hs _ ht, h1.mono hs, h2.mono hs, h3.mono hs⟩
theorem FqIn.is {h₀ h : Heap} {L : Addr} {l : List (Addr × Obj)} {x : Addr} {q n : Int} (N : News h₀ L h l) (i : FqIn l x q n) : IsFQ h x q n := by
  obtain ⟨dx, h1, h2, t1, t2, tp, tn, a, b⟩ := i
  exact ⟨dx, h1, h2, t1, t2, tp, tn, InstAt.of_news N a b⟩
theorem PtIn.is {h₀ h : Heap} {L : Addr} {l : List (Addr × Obj)} {D : Addr} {q a b c : Int} (N : News h₀ L h l) (i : PtIn l D q a b c) : IsPt h D q a b c := by
  obtain ⟨x, y, z, ht, h1, h2, h3⟩ := i
  exact ⟨x, y, z, News.isTup N ht, h1.is N, h2.is N, h3.is N⟩
theorem fqin_of {l : List (Addr × Obj)} {x dx : Addr} {q n h1 h2 : Int} {t1 t2 tp tn : Tok} (a : (x, instObj 257 dx) ∈ l) (b : (dx, fqD h1 h2 t1 t2 q tp n tn) ∈ l) : FqIn l x q n := ⟨_, _, _, _, _, _, _, a, b⟩
theorem ptin_of {l : List (Addr × Obj)} {D x y z : Addr} {q a b c : Int} (ht : (D, ({ cls := .type "tuple", data := .seq #[.ref x, .ref y, .ref z] } : Obj)) ∈ l) (h1 : FqIn l x q a) (h2 : FqIn l y q b) (h3 : FqIn l z q c) : PtIn l D q a b c := ⟨x, y, z, ht, h1, h2, h3⟩
/-- what decompress_G1 answers -/
def decF (q n z : Int) : Option (Int × Int × Int) :=
  if bitZ z 383 = false then none else
  if (bitZ z 382 != decide (z % 2 ^ 381 = 0)) = true then none else
  if z % 2 ^ 381 = 0 then (if bitZ z 381 = true then none else some (1, 1, 0)) else
  if q ≤ z % 2 ^ 381 then none else
  if powM (powM (((z % 2 ^ 381) ^ 3 + n) % q) ((q + 1).fdiv 4) q) 2 q ≠ ((z % 2 ^ 381) ^ 3 + n) % q then none else
  if powM (((z % 2 ^ 381) ^ 3 + n) % q) ((q + 1).fdiv 4) q * 2 / q ≠ (if bitZ z 381 = true then 1 else 0) then
    some (z % 2 ^ 381 % q, (q - powM (((z % 2 ^ 381) ^ 3 + n) % q) ((q + 1).fdiv 4) q) % q, 1)
  else some (z % 2 ^ 381 % q, powM (((z % 2 ^ 381) ^ 3 + n) % q) ((q + 1).fdiv 4) q % q, 1)
section
variable {q n z r1 r : Int}
theorem decF_1 (h1 : bitZ z 383 = false) : decF q n z = none := by unfold decF; rw [if_pos h1]
theorem decF_2 (h1 : bitZ z 383 = true) (h2 : (bitZ z 382 != decide (z % 2 ^ 381 = 0)) = true) : decF q n z = none := by unfold decF; rw [if_neg (by rw [h1]; decide), if_pos h2]
theorem decF_3 (h1 : bitZ z 383 = true) (h2 : (bitZ z 382 != decide (z % 2 ^ 381 = 0)) = false) (h3 : z % 2 ^ 381 = 0) (h4 : bitZ z 381 = true) : decF q n z = none := by unfold decF; rw [if_neg (by rw [h1]; decide), if_neg (by rw [h2]; decide), if_pos h3, if_pos h4]
theorem decF_4 (h1 : bitZ z 383 = true) (h2 : (bitZ z 382 != decide (z % 2 ^ 381 = 0)) = false) (h3 : z % 2 ^ 381 = 0) (h4 : bitZ z 381 = false) : decF q n z = some (1, 1, 0) := by unfold decF; rw [if_neg (by rw [h1]; decide), if_neg (by rw [h2]; decide), if_pos h3, if_neg (by rw [h4]; decide)]
theorem decF_5 (h1 : bitZ z 383 = true) (h2 : (bitZ z 382 != decide (z % 2 ^ 381 = 0)) = false) (h3 : ¬ z % 2 ^ 381 = 0) (h4 : q ≤ z.fmod 4925250774549309901534880012517951725634967408808180833493536675530715221437151326426783281860614455100828498788352) : decF q n z = none := by rw [fmod381] at h4; unfold decF; rw [if_neg (by rw [h1]; decide), if_neg (by rw [h2]; decide), if_neg h3, if_pos h4]
theorem decF_6 (hq : 0 < q ∧ q ≤ 19) (h1 : bitZ z 383 = true) (h2 : (bitZ z 382 != decide (z % 2 ^ 381 = 0)) = false) (h3 : ¬ z % 2 ^ 381 = 0) (h4 : ¬ q ≤ z.fmod 4925250774549309901534880012517951725634967408808180833493536675530715221437151326426783281860614455100828498788352) (hr1 : r1 = powM ((z.fmod 4925250774549309901534880012517951725634967408808180833493536675530715221437151326426783281860614455100828498788352 ^ Int.toNat 3 + n).fmod q) ((q + 1).fdiv 4) q) (hr2 : r = powM r1 2 q) (h5 : r ≠ (z.fmod 4925250774549309901534880012517951725634967408808180833493536675530715221437151326426783281860614455100828498788352 ^ Int.toNat 3 + n).fmod q) : decF q n z = none := by
  rw [fmod381] at h4 hr1 h5
  rw [fmod_is hq] at hr1 h5
  unfold decF; rw [if_neg (by rw [h1]; decide), if_neg (by rw [h2]; decide), if_neg h3, if_neg h4, if_pos (by rw [hr2, hr1] at h5; exact h5)]
theorem decF_7 (hq : 0 < q ∧ q ≤ 19) (h1 : bitZ z 383 = true) (h2 : (bitZ z 382 != decide (z % 2 ^ 381 = 0)) = false) (h3 : ¬ z % 2 ^ 381 = 0) (h4 : ¬ q ≤ z.fmod 4925250774549309901534880012517951725634967408808180833493536675530715221437151326426783281860614455100828498788352) (hr1 : r1 = powM ((z.fmod 4925250774549309901534880012517951725634967408808180833493536675530715221437151326426783281860614455100828498788352 ^ Int.toNat 3 + n).fmod q) ((q + 1).fdiv 4) q) (hr2 : r = powM r1 2 q) (h5 : r = (z.fmod 4925250774549309901534880012517951725634967408808180833493536675530715221437151326426783281860614455100828498788352 ^ Int.toNat 3 + n).fmod q) (h6 : (r1 * 2).fdiv q ≠ if bitZ z 381 = true then 1 else 0) : decF q n z = some (z.fmod 4925250774549309901534880012517951725634967408808180833493536675530715221437151326426783281860614455100828498788352 % q, (q - r1) % q, 1) := by
  rw [fmod381] at h4 hr1 h5 ⊢
  rw [fmod_is hq] at hr1 h5
  rw [fdiv_pos hq] at h6
  unfold decF; rw [if_neg (by rw [h1]; decide), if_neg (by rw [h2]; decide), if_neg h3, if_neg h4, if_neg (by rw [hr2, hr1] at h5; exact fun e => e h5), if_pos (by rw [hr1] at h6; exact h6), hr1]
  rfl
theorem decF_8 (hq : 0 < q ∧ q ≤ 19) (h1 : bitZ z 383 = true) (h2 : (bitZ z 382 != decide (z % 2 ^ 381 = 0)) = false) (h3 : ¬ z % 2 ^ 381 = 0) (h4 : ¬ q ≤ z.fmod 4925250774549309901534880012517951725634967408808180833493536675530715221437151326426783281860614455100828498788352) (hr1 : r1 = powM ((z.fmod 4925250774549309901534880012517951725634967408808180833493536675530715221437151326426783281860614455100828498788352 ^ Int.toNat 3 + n).fmod q) ((q + 1).fdiv 4) q) (hr2 : r = powM r1 2 q) (h5 : r = (z.fmod 4925250774549309901534880012517951725634967408808180833493536675530715221437151326426783281860614455100828498788352 ^ Int.toNat 3 + n).fmod q) (h6 : (r1 * 2).fdiv q = if bitZ z 381 = true then 1 else 0) : decF q n z = some (z.fmod 4925250774549309901534880012517951725634967408808180833493536675530715221437151326426783281860614455100828498788352 % q, r1 % q, 1) := by
  rw [fmod381] at h4 hr1 h5 ⊢
  rw [fmod_is hq] at hr1 h5
  rw [fdiv_pos hq] at h6
  unfold decF; rw [if_neg (by rw [h1]; decide), if_neg (by rw [h2]; decide), if_neg h3, if_neg h4, if_neg (by rw [hr2, hr1] at h5; exact fun e => e h5), if_neg (by rw [hr1] at h6; exact fun e => e h6), hr1]
  rfl
end
theorem raisedN_mono {base : Heap} {l : List Env} {e : Addr} {cls : Value} {news news' : List (Addr × Obj)} {h : Heap} (R : RaisedN base l e cls news' h) (hs : ∀ p ∈ news, p ∈ news') : RaisedN base l e cls news h := by
  obtain ⟨B, a0, h1, h2, h3⟩ := R
  exact ⟨B, a0, h1, fun q hq => h2 q (hs q hq), h3⟩
theorem reads_pair {h : Heap} {t : Addr} {x y : Int} {a b : Tok} (I : IsTup h t #[.int x a, .int y b]) : Reads h (.ref t) (.tuple [.int x, .int y]) [] := by
  obtain ⟨o, ho, hc, n, hd⟩ := I
  exact Reads.tuple ho hc hd (.cons (Reads.int x a) (.cons (Reads.int y b) .nil))
theorem shaped_pair (x y : Int) : SeqAt.shaped (.tuple [.int x, .int y]) = true := by
  simp [SeqAt.shaped, PyData.canLay0, PyData.canLayAll0, PyData.depth, PyData.depthAll]
theorem eq_pair {prog : Program} {w : World} {A : Around} {E : Value → Shared → Prop} {s : Shared} {t t' : Addr} {x y x' y' : Int} {a b a' b' : Tok} {Q : Value → Shared → Prop}
    (h1 : IsTup s.heap t #[.int x a, .int y b]) (h2 : IsTup s.heap t' #[.int x' a', .int y' b']) (hu : A.units + 64 < cLine)
    (h : Q (.bool (decide (x = x' ∧ y = y'))) s) : wpAny (model prog w) A (compareOp .Eq (.ref t) (.ref t')) Q E s := by
  refine eq_dataH_same (reads_pair h1) (reads_pair h2) (shaped_pair x y) (shaped_pair x' y') hu (by simp [SeqAt.noMix, SeqAt.noMixAll]) ?_
  have e : PySem.Spec.same (.tuple [.int x, .int y]) (.tuple [.int x', .int y']) = decide (x = x' ∧ y = y') := by
    simp [PySem.Spec.same, PySem.Spec.sameAll]
    by_cases h1 : x = x' <;> by_cases h2 : y = y' <;> simp [h1, h2]
  rw [e]
  exact h
theorem mulok_bd {a b : Int} (h : -(2 ^ 64) < a ∧ a < 2 ^ 64) : IntMulOk a b := IntMulOk.of_left (intBits_le_64 h.1 h.2)
theorem bd_mul {a b A B : Int} (ha : 0 ≤ a ∧ a ≤ A) (hb : 0 ≤ b ∧ b ≤ B) : 0 ≤ a * b ∧ a * b ≤ A * B :=
  ⟨Int.mul_nonneg ha.1 hb.1, Int.mul_le_mul ha.2 hb.2 hb.1 (Int.le_trans ha.1 ha.2)⟩
theorem mulok_a {p x r b : Int} (hx : Rng p x) (hr : Rng p r) (hq : 0 < p ∧ p ≤ 19) : IntMulOk (3 * x * x * r) b := by
  obtain ⟨x0, x1⟩ := hx
  obtain ⟨r0, r1⟩ := hr
  have h1 := bd_mul (a := 3) (b := x) (A := 3) (B := 19) (by omega) (by omega)
  have h2 := bd_mul (a := 3 * x) (b := x) (A := 3 * 19) (B := 19) h1 (by omega)
  have h3 := bd_mul (a := 3 * x * x) (b := r) (A := 3 * 19 * 19) (B := 19) h2 (by omega)
  exact mulok_bd (by omega)
theorem mulok_b {p y z r b : Int} (hy : Rng p y) (hz : Rng p z) (hr : Rng p r) (hq : 0 < p ∧ p ≤ 19) : IntMulOk ((y - z) * r) b := by
  obtain ⟨y0, y1⟩ := hy
  obtain ⟨z0, z1⟩ := hz
  obtain ⟨r0, r1⟩ := hr
  have h1 := bd_mul (a := y) (b := r) (A := 19) (B := 19) (by omega) (by omega)
  have h2 := bd_mul (a := z) (b := r) (A := 19) (B := 19) (by omega) (by omega)
  rw [Int.sub_mul]
  exact mulok_bd (by omega)
/-- the law's points: None or a pair of ints -/
abbrev LP := Option (Int × Int)
def IsLP (h : Heap) (v : Value) : LP → Prop
  | none => v = .none
  | some (x, y) => ∃ t tx ty, v = .ref t ∧ IsTup h t #[.int x tx, .int y ty]
def LPok (p : Int) : LP → Prop
  | none => True
  | some (x, y) => Rng p x ∧ Rng p y
def numF (p : Int) : LP → Int
  | none => 2 ^ 383 + 2 ^ 382
  | some (x, y) => 2 ^ 383 + (if p < 2 * y then 2 ^ 381 else 0) + x
def sumF (p : Int) : LP → LP → LP
  | none, o => o
  | some a, none => some a
  | some (x1, y1), some (x2, y2) =>
    if x1 = x2 ∧ y1 ≠ y2 then none else
    let sl := if x1 = x2 then 3 * x1 * x1 * powM (2 * y1) (p - 2) p else (y2 - y1) * powM (x2 - x1) (p - 2) p
    let x := (sl * sl - x1 - x2) % p
    some (x, (sl * (x1 - x) - y1) % p)
theorem mulok_r {p a r : Int} (hr : Rng p r) (hq : 0 < p ∧ p ≤ 19) : IntMulOk a r := by
  obtain ⟨r0, r1⟩ := hr
  exact IntMulOk.of_right (intBits_le_64 (by omega) (by omega))
section
variable {p x1 y1 x2 y2 r : Int}
theorem sumF_none (h : x1 = x2) (h2 : y1 ≠ y2) : sumF p (some (x1, y1)) (some (x2, y2)) = none := by dsimp only [sumF]; rw [if_pos ⟨h, h2⟩]
theorem sumF_eq (hq : 0 < p ∧ p ≤ 19) (h : x1 = x2) (h2 : y1 = y2) (hr : r = powM (2 * y1) (p - 2) p) : sumF p (some (x1, y1)) (some (x2, y2)) =
    some ((3 * x1 * x1 * r * (3 * x1 * x1 * r) - x1 - x2).fmod p, (3 * x1 * x1 * r * (x1 - (3 * x1 * x1 * r * (3 * x1 * x1 * r) - x1 - x2).fmod p) - y1).fmod p) := by
  dsimp only [sumF]
  rw [if_neg (fun e => e.2 h2), if_pos h, ← hr, fmod_is hq, fmod_is hq]
theorem sumF_ne (hq : 0 < p ∧ p ≤ 19) (h : x1 ≠ x2) (hr : r = powM (x2 - x1) (p - 2) p) : sumF p (some (x1, y1)) (some (x2, y2)) =
    some (((y2 - y1) * r * ((y2 - y1) * r) - x1 - x2).fmod p, ((y2 - y1) * r * (x1 - ((y2 - y1) * r * ((y2 - y1) * r) - x1 - x2).fmod p) - y1).fmod p) := by
  dsimp only [sumF]
  rw [if_neg (fun e => h e.1), if_neg h, ← hr, fmod_is hq, fmod_is hq]
theorem islp_eq {h : Heap} {v : Value} {o o' : LP} (e : o' = o) (i : IsLP h v o) : IsLP h v o' := e ▸ i
theorem islp_pair {h : Heap} {t : Addr} {x y : Int} {a b : Tok} (i : IsTup h t #[.int x a, .int y b]) : IsLP h (.ref t) (some (x, y)) := ⟨t, a, b, rfl, i⟩
theorem lpok_sum {p : Int} {o o' : LP} (hq : 0 < p ∧ p ≤ 19) (h : LPok p o) (h' : LPok p o') : LPok p (sumF p o o') := by
  rcases o with _ | ⟨x1, y1⟩
  · exact h'
  · rcases o' with _ | ⟨x2, y2⟩
    · exact h
    · dsimp only [sumF]
      by_cases hc : x1 = x2 ∧ y1 ≠ y2
      · rw [if_pos hc]; trivial
      · rw [if_neg hc]
        exact ⟨⟨Int.emod_nonneg _ (by omega), Int.emod_lt_of_pos _ hq.1⟩, ⟨Int.emod_nonneg _ (by omega), Int.emod_lt_of_pos _ hq.1⟩⟩
end
end Bb
namespace Bb
/-- the law's loop for b -/
def loopB : Nat → Int → Int → Bool
  | 0, _, _ => false
  | k + 1, p, b => if powM b ((p - 1).fdiv 2) p ≠ p - 1 ∨ powM b ((p - 1).fdiv 3) p = 1 then loopB k p ((b + 1).fmod p) else true
theorem loopB7 : ∀ b : Fin 7, loopB 20 7 b.val = true := by decide +kernel
theorem loopB19 : ∀ b : Fin 19, loopB 20 19 b.val = true := by decide +kernel
theorem loopB_start {p b : Int} (hp : p = 7 ∨ p = 19) (hb : Rng p b) : loopB 20 p b = true := by
  obtain ⟨n, rfl⟩ := Int.eq_ofNat_of_zero_le hb.1
  have h1 := hb.2
  rcases hp with rfl | rfl
  · exact loopB7 ⟨n, by omega⟩
  · exact loopB19 ⟨n, by omega⟩
theorem loopB_step {k : Nat} {p b : Int} (h : loopB k p b = true) (h1 : powM b ((p - 1).fdiv 2) p ≠ p - 1 ∨ powM b ((p - 1).fdiv 3) p = 1) : ∃ k', k' < k ∧ loopB k' p ((b + 1).fmod p) = true := by
  cases k with
  | zero => cases h
  | succ k =>
    unfold loopB at h
    rw [if_pos h1] at h
    exact ⟨k, Nat.lt_succ_self _, h⟩
/-- neither a square nor a cube -/
def GoodB (p b : Int) : Prop := Rng p b ∧ powM b ((p - 1).fdiv 2) p = p - 1 ∧ powM b ((p - 1).fdiv 3) p ≠ 1
/-- the end of the while: b found -/
def BEnd (g : Heap) (L : Addr) (p : Int) (m₀ : Str → Option Value) (news : List (Addr × Obj)) (Q : Flow → Shared → Prop) (s₀ : Shared) (f : Flow) (s : Shared) : Prop := match f with
  | .next => ∃ h' tk' b t, s = { s₀ with heap := h', toks := tk' } ∧ Fr g L h' (kstB m₀ [(Str.ofString "b", .int b t)]) ∧ News g L h' news ∧ GoodB p b
  | .ret v => Q (.ret v) s
  | _ => False
theorem whl_b {prog : Program} {w : World} {A : Around} {E : Value → Shared → Prop} {env : Env} {test : PySem.Expr} {body : List Stmt} {pos : Pos} {Q : Flow → Shared → Prop} {s : Shared} {g : Heap} {L : Addr} {m₀ : Str → Option Value} {news : List (Addr × Obj)} {p b : Int} {t : Tok}
    (hE : PassesOwn (model prog w) A env E) (hq : 0 < p ∧ p ≤ 19) (hp : p = 7 ∨ p = 19) (hb : Rng p b) (F : Fr g L s.heap m₀) (N : News g L s.heap news) (hk : m₀ (Str.ofString "b") = some (.int b t))
    (turn : ∀ (k : Nat) (b : Int) (t : Tok) (h' : Heap) (tk' : Nat), Rng p b → loopB k p b = true → Fr g L h' (kstB m₀ [(Str.ofString "b", .int b t)]) → News g L h' news →
      wpAny (model prog w) A (isTrue test env (eval test env)) (fun v s₂ => WhlIf v (wpAny (model prog w) A (execs body env) (WhEnd (KEnd g L (fun c : Int × Tok => [(Str.ofString "b", .int c.1 c.2)]) [] m₀ news (fun c' => ∃ k', k' < k ∧ Rng p c'.1 ∧ loopB k' p c'.1 = true) { s with heap := h', toks := tk' }) (BEnd g L p m₀ news Q { s with heap := h', toks := tk' })) E s₂) (BEnd g L p m₀ news Q { s with heap := h', toks := tk' } .next s₂)) E { s with heap := h', toks := tk' })
    (done : ∀ b t h' tk', GoodB p b → Fr g L h' (kstB m₀ [(Str.ofString "b", .int b t)]) → News g L h' news → Q .next { s with heap := h', toks := tk' }) :
    wpAny (model prog w) A (exec (.While test body [] pos) env) Q E s := by
  have hmono : ∀ (h' : Heap) (tk' : Nat) (f : Flow) (s' : Shared), BEnd g L p m₀ news Q { s with heap := h', toks := tk' } f s' → Q f s' := by
    intro h' tk' f s' hf
    cases f with
    | next =>
      obtain ⟨h2, tk2, b, t, rfl, F', N', G⟩ := hf
      exact done b t h2 tk2 G F' N'
    | ret v => exact hf
    | brk => cases hf
    | cont => cases hf
  refine whl_st (σ := Int × Tok) (fun c => [(Str.ofString "b", .int c.1 c.2)]) [] (fun k c => Rng p c.1 ∧ loopB k p c.1 = true) 20 (b, t) hE F N ?_ ⟨hb, loopB_start hp hb⟩ ?_
  · intro q hq'
    rw [List.mem_singleton.mp hq']
    exact hk
  · rintro k ⟨b, t⟩ u h' tk' ⟨h1, h2⟩ F' N'
    have e : (fun z => if ([] : List Str).contains z then u z else m₀ z) = m₀ := by funext z; simp
    rw [e] at F'
    refine wpAny_mono (turn k b t h' tk' h1 h2 F' N') (fun v s₂ hv => ?_) fun _ _ y => y
    cases v with
    | true =>
      unfold WhlIf at hv ⊢
      rw [if_pos rfl] at hv ⊢
      refine wpAny_mono hv (fun f s' hf => ?_) fun _ _ y => y
      cases f with
      | next => exact hf
      | cont => exact hf
      | brk => exact hmono _ _ .next _ hf
      | ret v => exact hf
    | false =>
      unfold WhlIf at hv ⊢
      rw [if_neg Bool.false_ne_true] at hv ⊢
      exact wpAny_execs_nil (hmono _ _ .next _ hv)
/-- an item of the written primes -/
theorem primes_item {prog : Program} {w : World} {A : Around} {E : Value → Shared → Prop} {s : Shared} {K : Frag} {h₀ : Heap} {L a : Addr} {m : Str → Option Value} {n : Nat} {value slice : PySem.Expr} {l : List Value} {dd : Option Addr} {sl : Array (Option Value)} {k : Int} {u : Tok} {Q : Value → Shared → Prop} (F : Fr h₀ L s.heap m) (X₀ : K.In h₀)
    (hl : K.lookup a = some ⟨.type "tuple", dd, .seq l.toArray n, sl⟩) (hi : IntsAre l [7, 19]) (h0 : 0 ≤ k) (h1 : k < 2) (h : ∀ v t, (v = 7 ∨ v = 19) → (0 < v ∧ v ≤ 19) → Q (.int v t) s)
    (hs : subscripted slice false (.ref a) (.int k u) = operate [.ref a, .int k u] (getItem (.ref a) (.int k u)) := by with_unfolding_all rfl) :
    wpAny (model prog w) A (subscriptTail value slice (.ref a) (.int k u)) Q E s := by
  refine topTupAny_K F X₀ hl hi h0 h1 (by omega) (fun t => ?_) hs
  rcases (show k = 0 ∨ k = 1 by omega) with rfl | rfl
  · exact h _ t (.inl rfl) (by decide)
  · exact h _ t (.inr rfl) (by decide)
section
variable {prog : Program} {w : World} {A : Around} {E : Value → Shared → Prop} {s : Shared} {env : Env} {h₀ : Heap} {x : Str} {body : List Stmt} {Q : Flow → Shared → Prop}
/-- the end of a turn whose ledger may grow -/
def FEnd {σ : Type} (g : Heap) (L : Addr) (Led : σ → List (Addr × Obj)) (ps : σ → List (Str × Value)) (x : Str) (stored : List Str) (m₀ : Str → Option Value) (P : σ → Prop) (I : Addr) (oI : Obj) (s₀ s : Shared) : Prop :=
  ∃ h' tk' m' news' c, s = { s₀ with heap := h', toks := tk' } ∧ Fr g L h' m' ∧ News g L h' news' ∧ (I, oI) ∈ news' ∧ (∀ p ∈ Led c, p ∈ news') ∧ (∀ p ∈ Led c, p.1 ≠ I) ∧ (∀ p ∈ ps c, m' p.1 = some p.2) ∧ (∀ z, z ≠ x → (∀ p ∈ ps c, z ≠ p.1) → stored.contains z = false → m' z = m₀ z) ∧ P c
def FPost {σ : Type} (g : Heap) (L : Addr) (Led : σ → List (Addr × Obj)) (ps : σ → List (Str × Value)) (x : Str) (stored : List Str) (m₀ : Str → Option Value) (P : σ → Prop) (I : Addr) (oI : Obj) (s₀ : Shared) (Q : Flow → Shared → Prop) (f : Flow) (s : Shared) : Prop := match f with
  | .ret v => Q (.ret v) s
  | .brk => Q .next s
  | _ => FEnd g L Led ps x stored m₀ P I oI s₀ s
theorem fend {σ : Type} {g h' : Heap} {L I : Addr} {oI : Obj} {Led : σ → List (Addr × Obj)} {ps : σ → List (Str × Value)} {x : Str} {stored : List Str} {m₀ m' : Str → Option Value} {news' : List (Addr × Obj)} {P : σ → Prop} {s₀ : Shared} {tk' : Nat} (c : σ)
    (F : Fr g L h' m') (N : News g L h' news') (hI : (I, oI) ∈ news') (hn : ∀ p ∈ Led c, p ∈ news') (ho : ∀ p ∈ Led c, p.1 ≠ I) (hk : ∀ p ∈ ps c, m' p.1 = some p.2) (hr : ∀ z, z ≠ x → (∀ p ∈ ps c, z ≠ p.1) → stored.contains z = false → m' z = m₀ z) (hp : P c) :
    FEnd g L Led ps x stored m₀ P I oI s₀ { s₀ with heap := h', toks := tk' } := ⟨h', tk', m', news', c, rfl, F, N, hI, hn, ho, hk, hr, hp⟩
/-- an iterator's object -/
def IterO (o : Obj) : Prop := o.cls = .type "list_iterator" ∨ o.cls = .type "range_iterator"
theorem for_gen {σ : Type} {I : Addr} {fp : List Addr} {n : Nat} {PI : Nat → Value → Prop} {St : Nat → Heap → Prop} {m₀ : Str → Option Value}
    (Led : σ → List (Addr × Obj)) (ps : σ → List (Str × Value)) (stored : List Str) (P : Nat → σ → Prop) (c₀ : σ)
    (W : Walks prog w A I fp [I] n PI St) (hLf : env.locals ∉ fp) (hI : h₀.get? I = none) (hIf : I ∈ fp) (hfp : ∀ b ∈ fp, b = I ∨ ∃ o, ∀ c, (b, o) ∈ Led c) (hSI : ∀ i h, St i h → ∃ o, h.get? I = some o ∧ IterO o)
    (hst : St 0 s.heap) (F : Fr h₀ env.locals s.heap m₀) (N : News h₀ env.locals s.heap (Led c₀)) (hoff : ∀ q ∈ Led c₀, q.1 ≠ I) (hk : ∀ p ∈ ps c₀, m₀ p.1 = some p.2) (hp : P 0 c₀)
    (turn : ∀ (i : Nat) (v : Value) (c : σ) (u : Str → Option Value) (h : Heap) (tk : Nat) (oI : Obj), IterO oI → i < n → PI i v → P i c → (∀ q ∈ Led c, q.1 ≠ I) → Fr h₀ env.locals h (fun y => if y = x then some v else kstB (fun z => if stored.contains z then u z else m₀ z) (ps c) y) → News h₀ env.locals h ((I, oI) :: Led c) →
      wpAny (model prog w) A (execs body env) (FPost h₀ env.locals Led ps x stored m₀ (P (i + 1)) I oI { s with heap := h, toks := tk } Q) E { s with heap := h, toks := tk })
    (done : ∀ (c : σ) (u : Str → Option Value) (h : Heap) (tk : Nat), P n c → Fr h₀ env.locals h (fun y => if y = x then u y else kstB (fun z => if stored.contains z then u z else m₀ z) (ps c) y) → News h₀ env.locals h (Led c) → Q .next { s with heap := h, toks := tk }) :
    LoopAtV prog w A h₀ env x body Q E (.ref I) s := by
  refine ⟨I, fp, [I], n, PI, St, m₀, Led c₀, (fun i m nx => ∃ c, nx = Led c ∧ (∀ p ∈ ps c, m p.1 = some p.2) ∧ (∀ z, z ≠ x → (∀ p ∈ ps c, z ≠ p.1) → stored.contains z = false → m z = m₀ z) ∧ P i c), rfl, W, hLf, ?_, ?_, hst, F, N, ⟨c₀, rfl, hk, fun _ _ _ _ => rfl, hp⟩, ?_, ?_⟩
  · intro b hb
    rw [List.mem_singleton.mp hb]; exact hI
  · intro p hp hq
    exact hoff p hp (List.mem_singleton.mp hq)
  · rintro i v m₁ _ s₁ own ⟨hh', tk', rfl⟩ hin hP ⟨c, rfl, h1, h2, hp'⟩ hofw hown hmem hnew hst' F₁ N₁
    obtain ⟨oI, hoI, hit⟩ := hSI _ _ hst'
    have hIo : (I, oI) ∈ own := hnew _ hIf hI oI hoI
    have hoff' : ∀ q ∈ Led c, q.1 ≠ I := fun q hq e => hofw q hq (List.mem_singleton.mpr e)
    have N₂ : News h₀ env.locals hh' ((I, oI) :: Led c) := fun p hp => by
      rcases List.mem_cons.mp hp with rfl | hp
      · exact N₁ _ (List.mem_append.mpr (.inl hIo))
      · exact N₁ _ (List.mem_append.mpr (.inr hp))
    refine wpAny_mono (turn i v c m₁ hh' tk' oI hit hin hP hp' hoff' (kst_fr h1 h2 F₁) N₂) (fun f s₂ p => ?_) fun _ _ e => e
    have fin : FEnd h₀ env.locals Led ps x stored m₀ (P (i + 1)) I oI { s with heap := hh', toks := tk' } s₂ → LoopStepU h₀ env.locals [I] own (fun m nx => ∃ c, nx = Led c ∧ (∀ p ∈ ps c, m p.1 = some p.2) ∧ (∀ z, z ≠ x → (∀ p ∈ ps c, z ≠ p.1) → stored.contains z = false → m z = m₀ z) ∧ P (i + 1) c) { s with heap := hh', toks := tk' } .next s₂ := by
      rintro ⟨h', tk, m', news', c', e, F', N', hi, hn, ho, k1, k2, k3⟩
      refine ⟨rfl, h', tk, m', Led c', e, F', fun p hp => ?_, fun p hp hq => ho p hp (List.mem_singleton.mp hq), c', rfl, k1, k2, k3⟩
      rcases List.mem_append.mp hp with hp | hp
      · rcases hfp p.1 (hown p hp) with e1 | ⟨o, hc⟩
        · have e2 := hmem p hp
          have e3 : hh'.get? p.1 = some oI := by rw [e1]; exact hoI
          have e4 : some p.2 = some oI := by rw [← e2, ← e3]
          have e5 : p = (I, oI) := Prod.ext e1 (Option.some.inj e4)
          rw [e5]; exact N' _ hi
        · have e2 := hmem p hp
          have e3 := (N₁ (p.1, o) (List.mem_append.mpr (.inr (hc c)))).1
          have e4 : some p.2 = some o := by rw [← e2, ← e3]
          have e5 : p = (p.1, o) := Prod.ext rfl (Option.some.inj e4)
          rw [e5]; exact N' _ (hn _ (hc c'))
      · exact N' _ (hn p hp)
    cases f with
    | ret v => exact .ret p
    | brk => exact .brk p
    | next => exact .next (fin p)
    | cont => exact .cont (fin p)
  · rintro h' tk m' news' F' N' _ ⟨c, rfl, k1, k2, k3⟩
    exact done c m' h' tk k3 (kst_frOut k1 k2 F') N'
theorem for_rng {σ : Type} {r : Addr} {a₀ b₀ : Int} {t₀ u₀ v₀ : Tok} {n : Nat} {m₀ : Str → Option Value}
    (Led : σ → List (Addr × Obj)) (ps : σ → List (Str × Value)) (stored : List Str) (P : Nat → σ → Prop) (c₀ : σ)
    (hh : A.handled = none) (hr : IsRange s.heap r a₀ b₀ 1 t₀ u₀ v₀) (hsmall : Builtin.Range.small a₀ b₀ 1 = true) (hn : Builtin.Range.rangeSize a₀ b₀ 1 = (n : Int))
    (F : Fr h₀ env.locals s.heap m₀) (N : News h₀ env.locals s.heap (Led c₀)) (hk : ∀ p ∈ ps c₀, m₀ p.1 = some p.2) (hp : P 0 c₀)
    (turn : ∀ (I : Addr) (i : Nat) (k : Int) (t : Tok) (c : σ) (u : Str → Option Value) (h : Heap) (tk : Nat) (oI : Obj), IterO oI → i < n → k = a₀ + i → P i c → (∀ q ∈ Led c, q.1 ≠ I) → Fr h₀ env.locals h (fun y => if y = x then some (.int k t) else kstB (fun z => if stored.contains z then u z else m₀ z) (ps c) y) → News h₀ env.locals h ((I, oI) :: Led c) →
      wpAny (model prog w) A (execs body env) (FPost h₀ env.locals Led ps x stored m₀ (P (i + 1)) I oI { s with heap := h, toks := tk } Q) E { s with heap := h, toks := tk })
    (done : ∀ (c : σ) (u : Str → Option Value) (h : Heap) (tk : Nat), P n c → Fr h₀ env.locals h (fun y => if y = x then u y else kstB (fun z => if stored.contains z then u z else m₀ z) (ps c) y) → News h₀ env.locals h (Led c) → Q .next { s with heap := h, toks := tk }) :
    wpAny (model prog w) A (pyIter (.ref r)) (fun it s₂ => LoopAtV prog w A h₀ env x body Q E it s₂) E s := by
  refine wpAny_pyIter_range hr hsmall ?_
  have W : Walks prog w A s.heap.objs.size [s.heap.objs.size] [s.heap.objs.size] n (fun i v => ∃ t, v = .int (a₀ + i * 1) t)
      (fun i h => IsRangeIter h s.heap.objs.size (a₀ + (i : Nat) * 1) ((n : Int) - (i : Nat)) 1) := Walks.range hh _ a₀ 1 n
  refine for_gen (s := { s with heap := s.heap.push _ }) Led ps stored P c₀ W ?_ (next_is_new F) (.head _) (fun b hb => .inl (List.mem_singleton.mp hb)) ?_ ?_ (F.push _) (fun p hp => ⟨Heap.get?_push_of_some _ (N p hp).1, (N p hp).2⟩) ?_ hk hp ?_ ?_
  · intro hm
    exact absurd F.ns.lt ((List.mem_singleton.mp hm) ▸ Nat.lt_irrefl _)
  · intro i h hi
    exact ⟨_, hi, .inr rfl⟩
  · show IsRangeIter _ _ _ _ _
    rw [hn]; simpa using Heap.get?_push_size _ rfl
  · intro p hp hI
    exact absurd (Heap.lt_size (N p hp).1) (hI ▸ Nat.lt_irrefl _)
  · rintro i v c u h tk oI hit hi ⟨t, rfl⟩ hP hoff F' N'
    have e1 : a₀ + (i : Int) * 1 = a₀ + (i : Int) := by omega
    rw [e1] at F'
    exact turn _ i _ t c u h tk oI hit hi rfl hP hoff F' N'
  · exact done
theorem for_lst {σ : Type} {l : Addr} {vs : Array Value} {k : Nat} {m₀ : Str → Option Value}
    (Led : σ → List (Addr × Obj)) (ps : σ → List (Str × Value)) (stored : List Str) (P : Nat → σ → Prop) (c₀ : σ)
    (hh : A.handled = none) (hl : ∀ c, (l, listOf vs k) ∈ Led c)
    (F : Fr h₀ env.locals s.heap m₀) (N : News h₀ env.locals s.heap (Led c₀)) (hk : ∀ p ∈ ps c₀, m₀ p.1 = some p.2) (hp : P 0 c₀)
    (turn : ∀ (I : Addr) (i : Nat) (v : Value) (c : σ) (u : Str → Option Value) (h : Heap) (tk : Nat) (oI : Obj), IterO oI → i < vs.size → vs[i]? = some v → P i c → (∀ q ∈ Led c, q.1 ≠ I) → Fr h₀ env.locals h (fun y => if y = x then some v else kstB (fun z => if stored.contains z then u z else m₀ z) (ps c) y) → News h₀ env.locals h ((I, oI) :: Led c) →
      wpAny (model prog w) A (execs body env) (FPost h₀ env.locals Led ps x stored m₀ (P (i + 1)) I oI { s with heap := h, toks := tk } Q) E { s with heap := h, toks := tk })
    (done : ∀ (c : σ) (u : Str → Option Value) (h : Heap) (tk : Nat), P vs.size c → Fr h₀ env.locals h (fun y => if y = x then u y else kstB (fun z => if stored.contains z then u z else m₀ z) (ps c) y) → News h₀ env.locals h (Led c) → Q .next { s with heap := h, toks := tk }) :
    wpAny (model prog w) A (pyIter (.ref l)) (fun it s₂ => LoopAtV prog w A h₀ env x body Q E it s₂) E s := by
  have hm := N _ (hl c₀)
  have hls : s.heap.IsList l vs := ⟨_, hm.1, rfl, _, rfl⟩
  have hlt : l < s.heap.objs.size := Heap.lt_size hm.1
  have hne : l ≠ s.heap.objs.size := Nat.ne_of_lt hlt
  refine wpAny_pyIter_list hls ?_
  have W := Walks.list (prog := prog) (w := w) hh s.heap.objs.size l hne vs
  refine for_gen (s := { s with heap := s.heap.push _ }) Led ps stored P c₀ W ?_ (next_is_new F) (.head _) ?_ ?_ ?_ (F.push _) (fun p hp => ⟨Heap.get?_push_of_some _ (N p hp).1, (N p hp).2⟩) ?_ hk hp ?_ ?_
  · intro hm'
    rcases List.mem_cons.mp hm' with e | hm'
    · exact absurd F.ns.lt (e ▸ Nat.lt_irrefl _)
    · exact hm.2.1 (List.mem_singleton.mp hm').symm
  · intro b hb
    rcases List.mem_cons.mp hb with e | hb
    · exact .inl e
    · rw [List.mem_singleton.mp hb]; exact .inr ⟨_, hl⟩
  · rintro i h ⟨⟨o, ho, hc, _⟩, _⟩
    exact ⟨o, ho, .inl hc⟩
  · exact ⟨⟨_, Heap.get?_push_size _ rfl, rfl, rfl⟩, hls.at fun o e => Heap.get?_push_of_some _ e⟩
  · intro p hp hI
    exact absurd (Heap.lt_size (N p hp).1) (hI ▸ Nat.lt_irrefl _)
  · intro i v c u h tk oI hit hi hv hP hoff F' N'
    exact turn _ i v c u h tk oI hit hi hv hP hoff F' N'
  · exact done
end
end Bb
namespace Bb
structure Stop (p : Prop) : Prop where
  out : p
theorem stop_mk {p : Prop} (h : Stop p) : p := h.out
theorem stop_out {p : Prop} (h : p) : Stop p := ⟨h⟩
theorem ex2 {p : Int} (hp : p = 7 ∨ p = 19) : 0 ≤ (p - 1).fdiv 2 ∧ (p - 1).fdiv 2 < 20 := by rcases hp with rfl | rfl <;> decide
theorem ex3 {p : Int} (hp : p = 7 ∨ p = 19) : 0 ≤ (p - 1).fdiv 3 ∧ (p - 1).fdiv 3 < 20 := by rcases hp with rfl | rfl <;> decide
theorem ex4 {p : Int} (hp : p = 7 ∨ p = 19) : 0 ≤ (p + 1).fdiv 4 ∧ (p + 1).fdiv 4 < 20 := by rcases hp with rfl | rfl <;> decide
abbrev tupO (xs : Array Value) : Obj := { cls := .type "tuple", data := .seq xs }
def LpIn (tl : List (Addr × Obj)) (v : Value) : LP → Prop
  | none => v = .none
  | some (x, y) => ∃ t tx ty, v = .ref t ∧ (t, tupO #[.int x tx, .int y ty]) ∈ tl
theorem LpIn.mono {l l' : List (Addr × Obj)} {v : Value} {o : LP} (h : LpIn l v o) (hs : ∀ p ∈ l, p ∈ l') : LpIn l' v o := by
  rcases o with _ | ⟨x, y⟩
  · exact h
  · obtain ⟨t, tx, ty, e, hm⟩ := h
    exact ⟨t, tx, ty, e, hs _ hm⟩
theorem LpIn.is {h₀ h : Heap} {L : Addr} {l : List (Addr × Obj)} {v : Value} {o : LP} (N : News h₀ L h l) (i : LpIn l v o) : IsLP h v o := by
  rcases o with _ | ⟨x, y⟩
  · exact i
  · obtain ⟨t, tx, ty, e, hm⟩ := i
    exact ⟨t, tx, ty, e, News.isTup N hm⟩
def PtsAre (tl : List (Addr × Obj)) : List Value → List LP → Prop
  | [], [] => True
  | v :: vs, o :: os => LpIn tl v o ∧ PtsAre tl vs os
  | _, _ => False
theorem PtsAre.mono {l l' : List (Addr × Obj)} (hs : ∀ p ∈ l, p ∈ l') : ∀ {vs : List Value} {os : List LP}, PtsAre l vs os → PtsAre l' vs os
  | [], [], _ => trivial
  | _ :: _, _ :: _, h => ⟨h.1.mono hs, PtsAre.mono hs h.2⟩
theorem PtsAre.snoc {l : List (Addr × Obj)} {v : Value} {o : LP} (hv : LpIn l v o) : ∀ {vs : List Value} {os : List LP}, PtsAre l vs os → PtsAre l (vs ++ [v]) (os ++ [o])
  | [], [], _ => ⟨hv, trivial⟩
  | _ :: _, _ :: _, h => ⟨h.1, PtsAre.snoc hv h.2⟩
theorem PtsAre.length {l : List (Addr × Obj)} : ∀ {vs : List Value} {os : List LP}, PtsAre l vs os → vs.length = os.length
  | [], [], _ => rfl
  | _ :: _, _ :: _, h => congrArg (· + 1) (PtsAre.length h.2)
theorem PtsAre.get {l : List (Addr × Obj)} : ∀ {vs : List Value} {os : List LP} {i : Nat} {v : Value}, PtsAre l vs os → vs[i]? = some v → ∃ o, os[i]? = some o ∧ LpIn l v o
  | [], [], _, _, _, h => by simp at h
  | _ :: _, o :: _, 0, _, h, e => by
    simp only [List.getElem?_cons_zero, Option.some.injEq] at e
    exact ⟨o, rfl, e ▸ h.1⟩
  | _ :: _, _ :: _, i + 1, _, h, e => by
    simp only [List.getElem?_cons_succ] at e
    obtain ⟨o, h1, h2⟩ := PtsAre.get h.2 e
    exact ⟨o, by simpa using h1, h2⟩
/-- the points, as the law lists them -/
def ptsF (p b : Int) : Nat → List LP
  | 0 => [none]
  | i + 1 => ptsF p b i ++ (if (powM ((1 + (i : Int)) ^ 3 + b) ((p + 1).fdiv 4) p * powM ((1 + (i : Int)) ^ 3 + b) ((p + 1).fdiv 4) p - (1 + (i : Int)) ^ 3 - b) % p = 0 then [some (1 + (i : Int), powM ((1 + (i : Int)) ^ 3 + b) ((p + 1).fdiv 4) p), some (1 + (i : Int), p - powM ((1 + (i : Int)) ^ 3 + b) ((p + 1).fdiv 4) p)] else [])
theorem ptsF_yes {p b x y : Int} {i : Nat} (hx : x = 1 + (i : Int)) (hy : y = powM (x ^ 3 + b) ((p + 1).fdiv 4) p) (h : (y * y - x ^ 3 - b) % p = 0) : ptsF p b (i + 1) = ptsF p b i ++ [some (x, y)] ++ [some (x, p - y)] := by
  subst hx; subst hy
  rw [ptsF, if_pos h, List.append_assoc]; rfl
theorem ptsF_no {p b x y : Int} {i : Nat} (hx : x = 1 + (i : Int)) (hy : y = powM (x ^ 3 + b) ((p + 1).fdiv 4) p) (h : ¬ (y * y - x ^ 3 - b) % p = 0) : ptsF p b (i + 1) = ptsF p b i := by
  subst hx; subst hy
  rw [ptsF, if_neg h, List.append_nil]
/-- the points' loop, where it stands -/
structure PInv (p b : Int) (pl : Addr) (news : List (Addr × Obj)) (i : Nat) (its : Array Value) (tl : List (Addr × Obj)) : Prop where
  pts : PtsAre tl its.toList (ptsF p b i)
  size : its.size ≤ 2 * i + 1
  off : ∀ q ∈ news ++ tl, q.1 ≠ pl
section
variable {prog : Program} {w : World} {A : Around} {E : Value → Shared → Prop} {s : Shared} {env : Env} {h₀ : Heap} {x : Str} {body : List Stmt} {Q : Flow → Shared → Prop}
theorem pts_loop {r : Addr} {p b : Int} {t₀ u₀ v₀ : Tok} {m₀ : Str → Option Value} {news : List (Addr × Obj)} {pl Dc cp : Addr} {oc od : Obj} (stored : List Str)
    (hh : A.handled = none) (hp : p = 7 ∨ p = 19) (hr : IsRange s.heap r 1 p 1 t₀ u₀ v₀) (F : Fr h₀ env.locals s.heap m₀) (N : News h₀ env.locals s.heap news)
    (m1 : (pl, listOf #[.none] 0) ∈ news) (m2 : (Dc, od) ∈ news) (m3 : (cp, oc) ∈ news) (n2 : Dc ≠ pl) (n3 : cp ≠ pl)
    (turn : ∀ (I : Addr) (i : Nat) (k : Int) (t : Tok) (its : Array Value) (cnt : Nat) (tl : List (Addr × Obj)) (u : Str → Option Value) (h : Heap) (tk : Nat) (oI : Obj), i < 18 → k = 1 + (i : Int) → 0 < k ∧ k < p → PInv p b pl [(Dc, od), (cp, oc)] i its tl → I ≠ pl → (∀ q ∈ (Dc, od) :: (cp, oc) :: tl, q.1 ≠ pl) →
      (∀ q ∈ (pl, listOf its cnt) :: (Dc, od) :: (cp, oc) :: tl, q.1 ≠ I) →
      Fr h₀ env.locals h (fun y => if y = x then some (.int k t) else (if stored.contains y then u y else m₀ y)) → News h₀ env.locals h ((I, oI) :: (pl, listOf its cnt) :: (Dc, od) :: (cp, oc) :: tl) →
      wpAny (model prog w) A (execs body env) (FPost h₀ env.locals (fun c : Array Value × Nat × List (Addr × Obj) => (pl, listOf c.1 c.2.1) :: (Dc, od) :: (cp, oc) :: c.2.2) (fun _ => []) x stored m₀ (fun c => PInv p b pl [(Dc, od), (cp, oc)] (i + 1) c.1 c.2.2) I oI { s with heap := h, toks := tk } Q) E { s with heap := h, toks := tk })
    (done : ∀ (its : Array Value) (cnt : Nat) (tl : List (Addr × Obj)) (u : Str → Option Value) (h : Heap) (tk : Nat), PInv p b pl [(Dc, od), (cp, oc)] (p - 1).toNat its tl → Fr h₀ env.locals h (fun y => if y = x then u y else (if stored.contains y then u y else m₀ y)) → News h₀ env.locals h ((pl, listOf its cnt) :: (Dc, od) :: (cp, oc) :: tl) → Q .next { s with heap := h, toks := tk }) :
    wpAny (model prog w) A (pyIter (.ref r)) (fun it s₂ => LoopAtV prog w A h₀ env x body Q E it s₂) E s := by
  refine for_rng (n := (p - 1).toNat) (fun c : Array Value × Nat × List (Addr × Obj) => (pl, listOf c.1 c.2.1) :: (Dc, od) :: (cp, oc) :: c.2.2) (fun _ => []) stored (fun i c => PInv p b pl [(Dc, od), (cp, oc)] i c.1 c.2.2) (#[.none], 0, []) hh hr ?_ ?_ F ?_ (fun _ h => nomatch h) ?_ ?_ ?_
  · rcases hp with rfl | rfl <;> decide
  · rcases hp with rfl | rfl <;> decide
  · intro q hq
    rcases List.mem_cons.mp hq with rfl | hq
    · exact N _ m1
    · rcases List.mem_cons.mp hq with rfl | hq
      · exact N _ m2
      · rw [List.mem_singleton.mp hq]; exact N _ m3
  · refine ⟨⟨rfl, trivial⟩, by simp, ?_⟩
    intro q hq
    rcases List.mem_cons.mp hq with rfl | hq
    · exact n2
    · rw [List.mem_singleton.mp hq]; exact n3
  · rintro I i k t ⟨its, cnt, tl⟩ u h tk oI _ hi hk hP hoff F' N'
    have hi2 : i < 18 := by rcases hp with rfl | rfl <;> simp at hi <;> omega
    have hkb : 0 < k ∧ k < p := by omega
    exact turn I i k t its cnt tl u h tk oI hi2 hk hkb hP (fun e => hoff _ (.head _) e.symm) hP.off hoff F' N'
  · rintro ⟨its, cnt, tl⟩ u h tk hP F' N'
    exact done its cnt tl u h tk hP F' N'
end
end Bb
namespace Bb
theorem lpin_pair {tl : List (Addr × Obj)} {t : Addr} {x y : Int} {a b : Tok} (h : (t, tupO #[.int x a, .int y b]) ∈ tl) : LpIn tl (.ref t) (some (x, y)) := ⟨t, a, b, rfl, h⟩
section
variable {p b k y : Int} {pl I t1 t2 : Addr} {i : Nat} {its : Array Value} {tl : List (Addr × Obj)} {x1 x2 : Addr × Obj} {a1 a2 b1 b2 : Tok} {o1 o1' o2 o3 oI : Obj}
theorem pts_yes (hP : PInv p b pl [x1, x2] i its tl) (hk : k = 1 + (i : Int)) (hy : y = powM (k ^ Int.toNat 3 + b) ((p + 1).fdiv 4) p) (hz : (y * y - k ^ Int.toNat 3 - b).fmod p = 0) (hq : 0 < p ∧ p ≤ 19) (h1 : @LT.lt Nat _ pl t1) (h2 : @LT.lt Nat _ pl t2) :
    PInv p b pl [x1, x2] (i + 1) ((its.push (.ref t1)).push (.ref t2)) ((t2, tupO #[.int k a1, .int (p - y) b1]) :: (t1, tupO #[.int k a2, .int y b2]) :: tl) := by
  refine ⟨?_, ?_, ?_⟩
  · rw [ptsF_yes hk hy (by rw [← fmod_is hq]; exact hz)]
    rw [Array.toList_push, Array.toList_push]
    refine PtsAre.snoc (lpin_pair (.head _)) (PtsAre.snoc (lpin_pair (.tail _ (.head _))) (PtsAre.mono (fun q hq => .tail _ (.tail _ hq)) hP.pts))
  · have := hP.size
    simp only [Array.size_push]; omega
  · intro q hq'
    have hoff := hP.off
    rcases List.mem_cons.mp hq' with rfl | hq'
    · exact hoff _ (.head _)
    · rcases List.mem_cons.mp hq' with rfl | hq'
      · exact hoff _ (.tail _ (.head _))
      · rcases List.mem_cons.mp hq' with rfl | hq'
        · exact Nat.ne_of_gt h2
        · rcases List.mem_cons.mp hq' with rfl | hq'
          · exact Nat.ne_of_gt h1
          · exact hoff q (.tail _ (.tail _ hq'))
theorem pts_no (hP : PInv p b pl [x1, x2] i its tl) (hk : k = 1 + (i : Int)) (hy : y = powM (k ^ Int.toNat 3 + b) ((p + 1).fdiv 4) p) (hz : (y * y - k ^ Int.toNat 3 - b).fmod p ≠ 0) (hq : 0 < p ∧ p ≤ 19) : PInv p b pl [x1, x2] (i + 1) its tl := by
  refine ⟨?_, ?_, hP.off⟩
  · rw [ptsF_no hk hy (by rw [← fmod_is hq]; exact hz)]
    exact hP.pts
  · have := hP.size
    omega
theorem pts_off (ho : ∀ q ∈ (pl, o1) :: x1 :: x2 :: tl, q.1 ≠ I) (h1 : @LT.lt Nat _ I t1) (h2 : @LT.lt Nat _ I t2) : ∀ q ∈ (pl, o1') :: x1 :: x2 :: (t2, o2) :: (t1, o3) :: tl, q.1 ≠ I := by
  intro q hq'
  rcases List.mem_cons.mp hq' with rfl | hq'
  · exact ho (pl, o1) (.head _)
  · rcases List.mem_cons.mp hq' with rfl | hq'
    · exact ho _ (.tail _ (.head _))
    · rcases List.mem_cons.mp hq' with rfl | hq'
      · exact ho _ (.tail _ (.tail _ (.head _)))
      · rcases List.mem_cons.mp hq' with rfl | hq'
        · exact Nat.ne_of_gt h2
        · rcases List.mem_cons.mp hq' with rfl | hq'
          · exact Nat.ne_of_gt h1
          · exact ho q (.tail _ (.tail _ (.tail _ hq')))
theorem pts_sub {x3 : Addr × Obj} : ∀ q ∈ (pl, o1) :: x1 :: x2 :: (t2, o2) :: (t1, o3) :: tl, q ∈ (t2, o2) :: (t1, o3) :: x3 :: (pl, o1) :: x1 :: x2 :: tl := by
  intro q hq
  simp only [List.mem_cons] at hq ⊢
  rcases hq with h | h | h | h | h | h <;> simp [h]
end
end Bb
namespace Bb
section
variable {prog : Program} {w : World} {A : Around} {h₀ : Heap} {L : Addr} {m : Str → Option Value} {env : Env} {elt : PySem.Expr} {x : Str} {scope : Scope} {cl : List (Str × Addr)} {s : Shared} {S : List (Addr × Obj) → Prop} {Fin : List Value → List (Addr × Obj) → Prop} {news : List (Addr × Obj)}
theorem comp_nums {vs : Array Value} {os : List LP} (g : LP → Int) (hpts : PtsAre news vs.toList os)
    (turn : ∀ v o I oI C oC D m₂ ys h tk (E' : Value → Shared → Prop), o ∈ os → LpIn news v o → LCg.NsObj oC m₂ → m₂ x = some v → Fr h₀ L h m → News h₀ L h ((I, oI) :: (C, oC) :: (D, LCg.lst ys) :: news) → LCg.Off3 I C D news → ((@Ne Nat I C) ∧ (@Ne Nat I D) ∧ (@Ne Nat C D)) →
      wpAny (model prog w) A (eval elt (compEnvC scope cl C env)) (LCg.CompEnd h₀ L m { s with heap := h, toks := tk } I oI C oC D (LCg.lst ys) S (fun y news' => KCfEl news (g o) y news')) E' { s with heap := h, toks := tk })
    (fin : ∀ ys, IntsAre ys (os.map g) → Fin ys news) : LCg.CompRest prog w A h₀ L m env elt x scope cl s S (fun i v => vs[i]? = some v) Fin vs.size 0 [] news := by
  have hlen : vs.size = os.length := by rw [← hpts.length, Array.length_toList]
  have key : ∀ (j i : Nat) (ys : List Value), i + j = vs.size → IntsAre ys ((os.take i).map g) → LCg.CompRest prog w A h₀ L m env elt x scope cl s S (fun i v => vs[i]? = some v) Fin j i ys news := by
    intro j
    induction j with
    | zero =>
      intro i ys hi hy
      have e : i = os.length := by omega
      subst e
      rw [List.take_length] at hy
      exact LCg.CompRest.zero (fin ys hy)
    | succ j ih =>
      intro i ys hi hy
      refine LCg.CompRest.succ ?_
      intro v I oI C oC D m₂ h tk E' hv hC hx F N off ne
      obtain ⟨o, ho, hvo⟩ := hpts.get (i := i) (v := v) (by rw [Array.getElem?_toList]; exact hv)
      refine wpAny_mono (turn v o I oI C oC D m₂ ys h tk E' (List.mem_of_getElem? ho) hvo hC hx F N off ne) (fun y s₂ hq => ?_) fun _ _ e => e
      obtain ⟨h', tk', nw, e, F', N', off', hS, hn, t', hy'⟩ := hq
      rw [hn] at N' off' hS
      refine ⟨h', tk', news, e, F', N', off', hS, ?_⟩
      rw [hy']
      refine ih (i + 1) _ (by omega) ?_
      rw [List.take_add_one, ho]
      simpa using IntsAre.append hy (.cons (g o) t' .nil)
  exact key vs.size 0 [] (by omega) (by simp only [List.take_zero, List.map_nil]; exact .nil)
end
/-- the eight curves -/
theorem good_cases {p b : Int} (hp : p = 7 ∨ p = 19) (G : GoodB p b) : (p = 7 ∧ (b = 3 ∨ b = 5)) ∨ (p = 19 ∧ (b = 2 ∨ b = 3 ∨ b = 10 ∨ b = 13 ∨ b = 14 ∨ b = 15)) := by
  obtain ⟨⟨h0, h1⟩, h2, h3⟩ := G
  obtain ⟨n, rfl⟩ := Int.eq_ofNat_of_zero_le h0
  rcases hp with rfl | rfl
  · refine .inl ⟨rfl, ?_⟩
    have key : ∀ n : Fin 7, powM (n.val : Int) 3 7 = 6 ∧ powM (n.val : Int) 2 7 ≠ 1 → (n.val = 3 ∨ n.val = 5) := by decide +kernel
    have := key ⟨n, by omega⟩ ⟨h2, h3⟩
    simp only at this
    omega
  · refine .inr ⟨rfl, ?_⟩
    have key : ∀ n : Fin 19, powM (n.val : Int) 9 19 = 18 ∧ powM (n.val : Int) 6 19 ≠ 1 → (n.val = 2 ∨ n.val = 3 ∨ n.val = 10 ∨ n.val = 13 ∨ n.val = 14 ∨ n.val = 15) := by decide +kernel
    have := key ⟨n, by omega⟩ ⟨h2, h3⟩
    simp only at this
    omega
def lpokB (p : Int) : LP → Bool
  | none => true
  | some (x, y) => decide ((0 ≤ x ∧ x < p) ∧ (0 ≤ y ∧ y < p))
theorem lpokB_ok {p : Int} {o : LP} (h : lpokB p o = true) : LPok p o := by
  rcases o with _ | ⟨x, y⟩
  · trivial
  · exact (of_decide_eq_true (p := (0 ≤ x ∧ x < p) ∧ (0 ≤ y ∧ y < p)) h)
theorem pts_ok {p b : Int} (hp : p = 7 ∨ p = 19) (G : GoodB p b) : ∀ o ∈ ptsF p b (p - 1).toNat, LPok p o := by
  have h : ((ptsF p b (p - 1).toNat).all fun o => lpokB p o) = true := by
    rcases good_cases hp G with ⟨rfl, rfl | rfl⟩ | ⟨rfl, rfl | rfl | rfl | rfl | rfl | rfl⟩ <;> decide +kernel
  exact fun o ho => lpokB_ok (List.all_eq_true.mp h o ho)
end Bb
namespace Bb
/-- what a point is made of -/
def KdO (o : Obj) : Prop := (∃ xs, o = tupO xs) ∨ (∃ dx, o = instObj 257 dx) ∨ ∃ h1 h2 t1 t2 q tp n tn, o = fqD h1 h2 t1 t2 q tp n tn
theorem kd_iter {o oI : Obj} (h : KdO o) (i : IterO oI) : o ≠ oI := by
  rintro rfl
  rcases h with ⟨xs, rfl⟩ | ⟨dx, rfl⟩ | ⟨h1, h2, t1, t2, q, tp, n, tn, rfl⟩ <;> rcases i with i | i <;> (first | cases i | (injection i with e; exact absurd e (by decide)))
theorem kd_forms {prog : Program} {w : World} {o of : Obj} {kvs : List (Int × Value)} (h : KdO o) (i : of.IsDictOf (intKind prog w) kvs) : o ≠ of := by
  rintro rfl
  obtain ⟨es, ep, hx, hd, hk, hp, _⟩ := i
  rcases h with ⟨xs, rfl⟩ | ⟨dx, rfl⟩ | ⟨h1, h2, t1, t2, q, tp, n, tn, rfl⟩
  · cases hd
  · cases hd
  · injection hd with e1 e2
    subst e1
    obtain ⟨k, h3, _⟩ := hk ⟨h1, .str (Str.ofString "field_modulus") t1, .int q tp⟩ (by simp)
    cases h3
theorem pt7 {tl all : List (Addr × Obj)} {D : Addr} {q a b c : Int} (i : PtIn tl D q a b c) (hs : ∀ p ∈ tl, p ∈ all) : ∃ tl7, PtIn tl7 D q a b c ∧ (∀ p ∈ tl7, p ∈ all) ∧ ∀ p ∈ tl7, KdO p.2 := by
  obtain ⟨x, y, z, ht, ⟨d1, h1, h2, t1, t2, tp, tn, a1, a2⟩, ⟨d2, h1', h2', t1', t2', tp', tn', b1, b2⟩, ⟨d3, h1'', h2'', t1'', t2'', tp'', tn'', c1, c2⟩⟩ := i
  refine ⟨[(D, { cls := .type "tuple", data := .seq #[.ref x, .ref y, .ref z] }), (x, instObj 257 d1), (d1, fqD h1 h2 t1 t2 q tp a tn), (y, instObj 257 d2), (d2, fqD h1' h2' t1' t2' q tp' b tn'), (z, instObj 257 d3), (d3, fqD h1'' h2'' t1'' t2'' q tp'' c tn'')],
    ⟨x, y, z, List.Mem.head _, ⟨d1, h1, h2, t1, t2, tp, tn, (.tail _ (.head _)), (.tail _ (.tail _ (.head _)))⟩, ⟨d2, h1', h2', t1', t2', tp', tn', (.tail _ (.tail _ (.tail _ (.head _)))), (.tail _ (.tail _ (.tail _ (.tail _ (.head _)))))⟩, ⟨d3, h1'', h2'', t1'', t2'', tp'', tn'', (.tail _ (.tail _ (.tail _ (.tail _ (.tail _ (.head _)))))), (.tail _ (.tail _ (.tail _ (.tail _ (.tail _ (.tail _ (.head _)))))))⟩⟩, ?_, ?_⟩
  · intro p hp
    simp only [List.mem_cons, List.not_mem_nil, or_false] at hp
    rcases hp with rfl | rfl | rfl | rfl | rfl | rfl | rfl
    · exact hs _ ht
    · exact hs _ a1
    · exact hs _ a2
    · exact hs _ b1
    · exact hs _ b2
    · exact hs _ c1
    · exact hs _ c2
  · intro p hp
    simp only [List.mem_cons, List.not_mem_nil, or_false] at hp
    rcases hp with rfl | rfl | rfl | rfl | rfl | rfl | rfl
    · exact .inl ⟨_, rfl⟩
    · exact .inr (.inl ⟨_, rfl⟩)
    · exact .inr (.inr ⟨_, _, _, _, _, _, _, _, rfl⟩)
    · exact .inr (.inl ⟨_, rfl⟩)
    · exact .inr (.inr ⟨_, _, _, _, _, _, _, _, rfl⟩)
    · exact .inr (.inl ⟨_, rfl⟩)
    · exact .inr (.inr ⟨_, _, _, _, _, _, _, _, rfl⟩)
theorem stored_keys {kvs : List (Int × Value)} {k k' : Int} {v : Value} : k' ∈ (stored kvs k v).map (·.1) ↔ k' ∈ kvs.map (·.1) ∨ k' = k := by
  unfold stored
  by_cases h : kvs.any (fun kv => kv.1 = k) = true
  · rw [if_pos h]
    have e : (kvs.map (fun kv => if kv.1 = k then (kv.1, v) else kv)).map (·.1) = kvs.map (·.1) := by
      rw [List.map_map]
      apply List.map_congr_left
      intro kv _
      show (if kv.1 = k then (kv.1, v) else kv).1 = kv.1
      split <;> rfl
    rw [e]
    refine ⟨.inl, fun h2 => ?_⟩
    rcases h2 with h2 | rfl
    · exact h2
    · simp only [List.any_eq_true, decide_eq_true_eq] at h
      obtain ⟨kv, hm, e⟩ := h
      exact List.mem_map.mpr ⟨kv, hm, e⟩
  · rw [if_neg h]
    simp
theorem stored_vals {kvs : List (Int × Value)} {k : Int} {v : Value} : ∀ kv ∈ stored kvs k v, kv = (k, v) ∨ kv ∈ kvs := by
  intro kv hm
  unfold stored at hm
  by_cases h : kvs.any (fun kv => kv.1 = k) = true
  · rw [if_pos h] at hm
    obtain ⟨kv', hm', e⟩ := List.mem_map.mp hm
    by_cases hk : kv'.1 = k
    · rw [if_pos hk] at e
      left; rw [← e, hk]
    · rw [if_neg hk] at e
      right; rw [← e]; exact hm'
  · rw [if_neg h] at hm
    rcases List.mem_append.mp hm with hm | hm
    · exact .inr hm
    · left; simpa using hm
theorem stored_len {kvs : List (Int × Value)} {k : Int} {v : Value} : (stored kvs k v).length ≤ kvs.length + 1 := by
  unfold stored
  split <;> simp
/-- the forms, where the double loop stands: ks the numbers gone by -/
structure FInv (prog : Program) (w : World) (p b : Int) (fd : Addr) (fixed tl1 : List (Addr × Obj)) (ks : List Int) (o : Obj) (kvs : List (Int × Value)) (tl : List (Addr × Obj)) : Prop where
  dict : o.IsDictOf (intKind prog w) kvs
  sub : ∀ q ∈ tl1, q ∈ tl
  keys : ∀ k, k ∈ kvs.map (·.1) ↔ (k ∈ ks ∧ (decF p b k).isSome = true)
  vals : ∀ kv ∈ kvs, ∃ D a b' c, kv.2 = .ref D ∧ decF p b kv.1 = some (a, b', c) ∧ Rng p a ∧ Rng p b' ∧ Rng p c ∧ PtIn tl D p a b' c
  off : ∀ q ∈ fixed ++ tl, q.1 ≠ fd
  len : kvs.length ≤ ks.length
section
variable {prog : Program} {w : World} {p b k a b' c : Int} {fd D : Addr} {fixed tl1 tl tl7 : List (Addr × Obj)} {ks : List Int} {o o' : Obj} {kvs : List (Int × Value)}
theorem finv_some (I : FInv prog w p b fd fixed tl1 ks o kvs tl) (hd : o'.IsDictOf (intKind prog w) (stored kvs k (.ref D))) (h : decF p b k = some (a, b', c)) (r1 : Rng p a) (r2 : Rng p b') (r3 : Rng p c) (hp : PtIn tl7 D p a b' c) (h7 : ∀ q ∈ tl7, q.1 ≠ fd) :
    FInv prog w p b fd fixed tl1 (ks ++ [k]) o' (stored kvs k (.ref D)) (tl7 ++ tl) := by
  refine ⟨hd, fun q hq => List.mem_append.mpr (.inr (I.sub q hq)), ?_, ?_, ?_, ?_⟩
  · intro k'
    rw [stored_keys, I.keys]
    constructor
    · rintro (⟨h1, h2⟩ | rfl)
      · exact ⟨List.mem_append.mpr (.inl h1), h2⟩
      · exact ⟨List.mem_append.mpr (.inr (.head _)), by rw [h]; rfl⟩
    · rintro ⟨h1, h2⟩
      rcases List.mem_append.mp h1 with h1 | h1
      · exact .inl ⟨h1, h2⟩
      · exact .inr (List.mem_singleton.mp h1)
  · intro kv hm
    rcases stored_vals kv hm with rfl | hm
    · exact ⟨D, a, b', c, rfl, h, r1, r2, r3, hp.mono fun q hq => List.mem_append.mpr (.inl hq)⟩
    · obtain ⟨D', a', b'', c', e, h', s1, s2, s3, i⟩ := I.vals kv hm
      exact ⟨D', a', b'', c', e, h', s1, s2, s3, i.mono fun q hq => List.mem_append.mpr (.inr hq)⟩
  · intro q hq
    rcases List.mem_append.mp hq with hq | hq
    · exact I.off q (List.mem_append.mpr (.inl hq))
    · rcases List.mem_append.mp hq with hq | hq
      · exact h7 q hq
      · exact I.off q (List.mem_append.mpr (.inr hq))
  · have := I.len
    have := stored_len (kvs := kvs) (k := k) (v := .ref D)
    rw [List.length_append, List.length_singleton]; omega
theorem finv_none (I : FInv prog w p b fd fixed tl1 ks o kvs tl) (h : decF p b k = none) : FInv prog w p b fd fixed tl1 (ks ++ [k]) o kvs tl := by
  refine ⟨I.dict, I.sub, ?_, I.vals, I.off, ?_⟩
  · intro k'
    rw [I.keys]
    constructor
    · rintro ⟨h1, h2⟩
      exact ⟨List.mem_append.mpr (.inl h1), h2⟩
    · rintro ⟨h1, h2⟩
      rcases List.mem_append.mp h1 with h1 | h1
      · exact ⟨h1, h2⟩
      · rw [List.mem_singleton.mp h1, h] at h2; cases h2
  · have := I.len
    rw [List.length_append, List.length_singleton]; omega
end
end Bb
namespace Bb
theorem caught_X {prog : Program} {w : World} {A : Around} {E : Value → Shared → Prop} {s' : Shared} {h₀ h : Heap} {outer : List Env} {L a e : Addr} {m mg mb : Str → Option Value} {name : Str} {scope : Scope} {cd : Value} {cl : List (Str × Addr)} {K : Frag}
    {b₀ : Stmt} {suite : List Stmt} {pos np : Pos} {rest : List ExceptHandler} {Q : Flow → Shared → Prop} {news : List (Addr × Obj)} {p : Program} {loose : List Str}
    (hA : A.frames = some (envX name scope L a cd cl :: outer)) (F : Fr h₀ L h m) (hsm : h.UpToSlots s'.heap) (R : RaisedN h₀ (envX name scope L a cd cl :: outer) e (.type "ValueError") news s'.heap)
    (X : K.In h₀) (T : TopRead p loose mg mb h₀) (eN : nsIn K mainGlobals (Str.ofString "ValueError") = some none)
    (k : ∀ h', Fr h₀ L h' m → News h₀ L h' news → wpAny (model prog w) (A.mark (some (.ref e))) (execs (b₀ :: suite) (envX name scope L a cd cl)) Q E { s' with heap := h' })
    (hE : PassesOwnAt (model prog w) (A.mark (some (.ref e))) A (envX name scope L a cd cl) E)
    (hk : scope.kind = .function) (hx : (envX name scope L a cd cl).kindOf (Str.ofString "ValueError") = some .globalImplicit) :
    wpAny (model prog w) A (noteFrame (.ref e) (envX name scope L a cd cl))
      (fun _ s₂ => wpAny (model prog w) A (setFlight (.ref e) none) (fun _ s₃ =>
        wpAny (model prog w) A (handleBy (.ref e) (envX name scope L a cd cl) (.ExceptHandler (some (.Name (Str.ofString "ValueError") np)) none (b₀ :: suite) pos :: rest)) Q E s₃) E s₂) E s' := by
  obtain ⟨B, a0, hB, hl, hfl⟩ := R
  have hL : B.get? L = none := by
    obtain ⟨_, ⟨L', _, hf, hn', _⟩, _⟩ := hfl.2.2.1
    obtain rfl : L = L' := Option.some.inj hf
    exact hn'
  refine wpAny_looks_onW hA rfl hfl fun h₄ hheld₄ hsm₄ => ?_
  refine wpAny_landsW hheld₄ fun h₅ hheld hsm₅' => ?_
  have hsm₅ := hsm₄.trans hsm₅'
  have hheld' := flyingW_base hB hheld
  have F₅ := F.of_stays hheld'.1 (hsm.trans hsm₅)
  obtain ⟨ob, hob, hobc⟩ := hheld'.there
  refine wpAny_handleBy_builtin (X := "ValueError") (T := "ValueError") (b := true) PySem.F.isExc_ValueError PySem.F.notTuple_ValueError (by rw [isSubtype_type]; kernel_rfl) (nameX_B (v := .type "ValueError") F₅ X T eN PyProof.Rows.Boot.«ValueError» (by decide) ⟨rfl, ⟨ob, hob, hobc⟩, ?_⟩ hk hx (by decide))
  refine lands_againW hheld fun h₆ hfl₆ hsm₆ => ?_
  have F₆ := F.of_stays (flyingW_base hB hfl₆).1 ((hsm.trans hsm₅).trans hsm₆)
  exact wpAny_passesOwnAt hE (k h₆ F₆ fun q hq => ⟨hfl₆.1 _ _ (hl q hq).1, (fun z => by have := (hl q hq).1; rw [z, hL] at this; cases this), (hl q hq).2⟩)
end Bb
namespace Bb
/-- the numbers that are tried for one x -/
def keys8 (x : Int) (j : Nat) : List Int := (List.range j).map fun h : Nat => (h : Int) * 2 ^ 381 + x
def keysOf (xs : List Int) : List Int := xs.flatMap fun x => keys8 x 8
theorem keys8_succ (x : Int) (j : Nat) : keys8 x (j + 1) = keys8 x j ++ [(j : Int) * 2 ^ 381 + x] := by
  unfold keys8
  rw [List.range_succ, List.map_append]; rfl
theorem keysOf_succ {xs : List Int} {i : Nat} {x : Int} (h : xs[i]? = some x) : keysOf (xs.take (i + 1)) = keysOf (xs.take i) ++ keys8 x 8 := by
  unfold keysOf
  rw [List.take_add_one, h, List.flatMap_append]
  simp
section
variable {prog : Program} {w : World} {A : Around} {E : Value → Shared → Prop} {s : Shared} {env : Env} {h₀ : Heap} {x : Str} {body : List Stmt} {Q : Flow → Shared → Prop}
/-- for x in the list -/
theorem forms_loop {p b : Int} {m₀ : Str → Option Value} {news : List (Addr × Obj)} {Xa fd : Addr} {ws : List Value} {xs : List Int} {o : Obj} (fixed tl1 : List (Addr × Obj)) (stored : List Str)
    (hh : A.handled = none) (hx : IntsAre ws xs) (F : Fr h₀ env.locals s.heap m₀) (N : News h₀ env.locals s.heap news) (m1 : (fd, o) ∈ news) (m2 : ∀ q ∈ fixed ++ tl1, q ∈ news) (m3 : (Xa, listOf ws.toArray 0) ∈ fixed) (hoff : ∀ q ∈ fixed ++ tl1, q.1 ≠ fd) (hd : o.IsDictOf (intKind prog w) [])
    (turn : ∀ (I : Addr) (i : Nat) (k : Int) (t : Tok) (o : Obj) (kvs : List (Int × Value)) (tl : List (Addr × Obj)) (u : Str → Option Value) (h : Heap) (tk : Nat) (oI : Obj), IterO oI → xs[i]? = some k → FInv prog w p b fd fixed tl1 (keysOf (xs.take i)) o kvs tl → (∀ q ∈ (fd, o) :: (fixed ++ tl), q.1 ≠ I) →
      Fr h₀ env.locals h (fun y => if y = x then some (.int k t) else (if stored.contains y then u y else m₀ y)) → News h₀ env.locals h ((I, oI) :: (fd, o) :: (fixed ++ tl)) →
      wpAny (model prog w) A (execs body env) (FPost h₀ env.locals (fun c : Obj × List (Addr × Obj) => (fd, c.1) :: (fixed ++ c.2)) (fun _ => []) x stored m₀ (fun c => ∃ kvs, FInv prog w p b fd fixed tl1 (keysOf (xs.take (i + 1))) c.1 kvs c.2) I oI { s with heap := h, toks := tk } Q) E { s with heap := h, toks := tk })
    (done : ∀ (o : Obj) (kvs : List (Int × Value)) (tl : List (Addr × Obj)) (u : Str → Option Value) (h : Heap) (tk : Nat), FInv prog w p b fd fixed tl1 (keysOf xs) o kvs tl → Fr h₀ env.locals h (fun y => if y = x then u y else (if stored.contains y then u y else m₀ y)) → News h₀ env.locals h ((fd, o) :: (fixed ++ tl)) → Q .next { s with heap := h, toks := tk }) :
    wpAny (model prog w) A (pyIter (.ref Xa)) (fun it s₂ => LoopAtV prog w A h₀ env x body Q E it s₂) E s := by
  have hlen : ws.toArray.size = xs.length := by rw [List.size_toArray, hx.length]
  refine for_lst (vs := ws.toArray) (k := 0) (fun c : Obj × List (Addr × Obj) => (fd, c.1) :: (fixed ++ c.2)) (fun _ => []) stored (fun i c => ∃ kvs, FInv prog w p b fd fixed tl1 (keysOf (xs.take i)) c.1 kvs c.2) (o, tl1) hh (fun c => .tail _ (List.mem_append.mpr (.inl m3))) F ?_ (fun _ h => nomatch h) ?_ ?_ ?_
  · intro q hq
    rcases List.mem_cons.mp hq with rfl | hq
    · exact N _ m1
    · exact N _ (m2 q hq)
  · exact ⟨[], ⟨hd, (fun _ h => h), (by intro k; simp [keysOf]), (fun _ h => nomatch h), hoff, Nat.le_refl _⟩⟩
  · rintro I i v ⟨o, tl⟩ u h tk oI hit hi hv ⟨kvs, hP⟩ hoffI F' N'
    obtain ⟨k, t, e, hk⟩ := IntsAre.at hx i v (by simpa using hv)
    subst e
    exact turn I i k t o kvs tl u h tk oI hit hk hP hoffI F' N'
  · rintro ⟨o, tl⟩ u h tk ⟨kvs, hP⟩ F' N'
    rw [hlen, List.take_length] at hP
    exact done o kvs tl u h tk hP F' N'
/-- for high in range(8) -/
theorem forms_in {p b k₀ : Int} {r : Addr} {t₀ u₀ v₀ : Tok} {m₀ : Str → Option Value} {I fd : Addr} {oI o : Obj} {kvs : List (Int × Value)} {ks : List Int} {fixed tl1 tl : List (Addr × Obj)} (stored : List Str)
    (hh : A.handled = none) (hr : IsRange s.heap r 0 8 1 t₀ u₀ v₀) (F : Fr h₀ env.locals s.heap m₀) (N : News h₀ env.locals s.heap ((I, oI) :: (fd, o) :: (fixed ++ tl))) (hP : FInv prog w p b fd fixed tl1 ks o kvs tl) (hoffI : ∀ q ∈ (fd, o) :: (fixed ++ tl), q.1 ≠ I)
    (turn : ∀ (I2 : Addr) (j : Nat) (hi : Int) (t : Tok) (o : Obj) (kvs : List (Int × Value)) (tl : List (Addr × Obj)) (u : Str → Option Value) (h : Heap) (tk : Nat) (oI2 : Obj), IterO oI2 → j < 8 → hi = (j : Int) → (0 ≤ hi ∧ hi < 8) → FInv prog w p b fd fixed tl1 (ks ++ keys8 k₀ j) o kvs tl → (∀ q ∈ (fd, o) :: (fixed ++ tl), q.1 ≠ I) → (∀ q ∈ (I, oI) :: (fd, o) :: (fixed ++ tl), q.1 ≠ I2) →
      Fr h₀ env.locals h (fun y => if y = x then some (.int hi t) else (if stored.contains y then u y else m₀ y)) → News h₀ env.locals h ((I2, oI2) :: (I, oI) :: (fd, o) :: (fixed ++ tl)) →
      wpAny (model prog w) A (execs body env) (FPost h₀ env.locals (fun c : Obj × List (Addr × Obj) => (I, oI) :: (fd, c.1) :: (fixed ++ c.2)) (fun _ => []) x stored m₀ (fun c => (∃ kvs, FInv prog w p b fd fixed tl1 (ks ++ keys8 k₀ (j + 1)) c.1 kvs c.2) ∧ ∀ q ∈ (fd, c.1) :: (fixed ++ c.2), q.1 ≠ I) I2 oI2 { s with heap := h, toks := tk } Q) E { s with heap := h, toks := tk })
    (done : ∀ (o : Obj) (kvs : List (Int × Value)) (tl : List (Addr × Obj)) (u : Str → Option Value) (h : Heap) (tk : Nat), FInv prog w p b fd fixed tl1 (ks ++ keys8 k₀ 8) o kvs tl → (∀ q ∈ (fd, o) :: (fixed ++ tl), q.1 ≠ I) → Fr h₀ env.locals h (fun y => if y = x then u y else (if stored.contains y then u y else m₀ y)) → News h₀ env.locals h ((I, oI) :: (fd, o) :: (fixed ++ tl)) → Q .next { s with heap := h, toks := tk }) :
    wpAny (model prog w) A (pyIter (.ref r)) (fun it s₂ => LoopAtV prog w A h₀ env x body Q E it s₂) E s := by
  refine for_rng (n := 8) (fun c : Obj × List (Addr × Obj) => (I, oI) :: (fd, c.1) :: (fixed ++ c.2)) (fun _ => []) stored (fun j c => (∃ kvs, FInv prog w p b fd fixed tl1 (ks ++ keys8 k₀ j) c.1 kvs c.2) ∧ ∀ q ∈ (fd, c.1) :: (fixed ++ c.2), q.1 ≠ I) (o, tl) hh hr (by decide) (by decide) F N (fun _ h => nomatch h) ?_ ?_ ?_
  · exact ⟨⟨kvs, by rw [show ks ++ keys8 k₀ 0 = ks from List.append_nil ks]; exact hP⟩, hoffI⟩
  · rintro I2 j hi t ⟨o, tl⟩ u h tk oI2 hit hj hk ⟨⟨kvs, hP⟩, ho1⟩ ho2 F' N'
    exact turn I2 j hi t o kvs tl u h tk oI2 hit hj (by omega) (by omega) hP ho1 ho2 F' N'
  · rintro ⟨o, tl⟩ u h tk ⟨⟨kvs, hP⟩, ho1⟩ F' N'
    exact done o kvs tl u h tk hP ho1 F' N'
end
end Bb
namespace Bb
theorem forms_start {prog : Program} {w : World} {A : Around} {E : Value → Shared → Prop} {s : Shared} {env : Env} {h₀ : Heap} {x : Str} {body : List Stmt} {Q : Flow → Shared → Prop} {p b : Int} {m₀ : Str → Option Value} {e1 e2 e4 e5 e6 e7 e8 e9 : Addr × Obj} {tl1 : List (Addr × Obj)} {Xa fd : Addr} {ws : List Value} {xs : List Int} {o : Obj} (stored : List Str)
    (hh : A.handled = none) (hx : IntsAre ws xs) (F : Fr h₀ env.locals s.heap m₀) (N : News h₀ env.locals s.heap ((Xa, listOf ws.toArray 0) :: e1 :: e2 :: (fd, o) :: e4 :: e5 :: e6 :: e7 :: e8 :: e9 :: tl1)) (hXa : @LT.lt Nat _ fd Xa) (hl : ∀ q ∈ e4 :: e5 :: e6 :: e7 :: e8 :: e9 :: tl1, q.1 ≠ fd) (hd : o.IsDictOf (intKind prog w) [])
    (turn : ∀ (I : Addr) (i : Nat) (k : Int) (t : Tok) (o : Obj) (kvs : List (Int × Value)) (tl : List (Addr × Obj)) (u : Str → Option Value) (h : Heap) (tk : Nat) (oI : Obj), IterO oI → xs[i]? = some k → FInv prog w p b fd [(Xa, listOf ws.toArray 0), e4, e5, e6, e7, e8, e9] tl1 (keysOf (xs.take i)) o kvs tl → (∀ q ∈ (fd, o) :: ([(Xa, listOf ws.toArray 0), e4, e5, e6, e7, e8, e9] ++ tl), q.1 ≠ I) →
      Fr h₀ env.locals h (fun y => if y = x then some (.int k t) else (if stored.contains y then u y else m₀ y)) → News h₀ env.locals h ((I, oI) :: (fd, o) :: (Xa, listOf ws.toArray 0) :: e4 :: e5 :: e6 :: e7 :: e8 :: e9 :: tl) →
      wpAny (model prog w) A (execs body env) (FPost h₀ env.locals (fun c : Obj × List (Addr × Obj) => (fd, c.1) :: ([(Xa, listOf ws.toArray 0), e4, e5, e6, e7, e8, e9] ++ c.2)) (fun _ => []) x stored m₀ (fun c => ∃ kvs, FInv prog w p b fd [(Xa, listOf ws.toArray 0), e4, e5, e6, e7, e8, e9] tl1 (keysOf (xs.take (i + 1))) c.1 kvs c.2) I oI { s with heap := h, toks := tk } Q) E { s with heap := h, toks := tk })
    (done : ∀ (o : Obj) (kvs : List (Int × Value)) (tl : List (Addr × Obj)) (u : Str → Option Value) (h : Heap) (tk : Nat), FInv prog w p b fd [(Xa, listOf ws.toArray 0), e4, e5, e6, e7, e8, e9] tl1 (keysOf xs) o kvs tl → Fr h₀ env.locals h (fun y => if y = x then u y else (if stored.contains y then u y else m₀ y)) → News h₀ env.locals h ((fd, o) :: (Xa, listOf ws.toArray 0) :: e4 :: e5 :: e6 :: e7 :: e8 :: e9 :: tl) → Q .next { s with heap := h, toks := tk }) :
    wpAny (model prog w) A (pyIter (.ref Xa)) (fun it s₂ => LoopAtV prog w A h₀ env x body Q E it s₂) E s := by
  refine forms_loop [(Xa, listOf ws.toArray 0), e4, e5, e6, e7, e8, e9] tl1 stored hh hx F N (.tail _ (.tail _ (.tail _ (.head _)))) ?_ (.head _) ?_ hd turn done
  · intro q hq
    rcases List.mem_cons.mp hq with rfl | hq
    · exact .head _
    · exact .tail _ (.tail _ (.tail _ (.tail _ hq)))
  · intro q hq
    rcases List.mem_cons.mp hq with rfl | hq
    · exact Nat.ne_of_gt hXa
    · exact hl q hq
end Bb
namespace Bb
theorem keys8_len (x : Int) (j : Nat) : (keys8 x j).length = j := by unfold keys8; rw [List.length_map, List.length_range]
theorem keysOf_len (xs : List Int) : (keysOf xs).length = 8 * xs.length := by
  induction xs with
  | nil => rfl
  | cons x xs ih =>
    have e : keysOf (x :: xs) = keys8 x 8 ++ keysOf xs := by unfold keysOf; rw [List.flatMap_cons]
    rw [e, List.length_append, keys8_len, ih, List.length_cons]; omega
theorem finv_size {prog : Program} {w : World} {p b k : Int} {fd : Addr} {fixed tl1 tl : List (Addr × Obj)} {xs : List Int} {i j : Nat} {o : Obj} {kvs : List (Int × Value)} (hP : FInv prog w p b fd fixed tl1 (keysOf (xs.take i) ++ keys8 k j) o kvs tl) (hj : j < 8) (hx : xs.length ≤ 1000) : kvs.length ≤ sizeLine := by
  have h1 := hP.len
  rw [List.length_append, keysOf_len, keys8_len, List.length_take] at h1
  rw [sizeLine_eq]
  omega
end Bb
namespace Bb
section
variable {prog : Program} {w : World} {p b k a b' c hi : Int} {fd D I I2 L : Addr} {g h' : Heap} {fixed tl1 tl tl7 : List (Addr × Obj)} {ks : List Int} {o o' oI oI2 : Obj} {kvs : List (Int × Value)} {j tk' : Nat} {x : Str} {stored₀ : List Str} {m₀ m' : Str → Option Value} {s₀ : Shared}
theorem fmod_self (h : Rng p b) : b.fmod p = b := by
  have hp : 0 ≤ p := Int.le_trans h.1 (Int.le_of_lt h.2)
  rw [Int.fmod_eq_emod_of_nonneg b hp]; exact Int.emod_eq_of_lt h.1 h.2
/-- the end of the turn of `for high`: one more form -/
theorem fend_yes (hP : FInv prog w p b fd fixed tl1 (ks ++ keys8 k j) o kvs tl)
    (F : Fr g L h' m') (N : News g L h' ((I2, oI2) :: (I, oI) :: (fd, o') :: (tl7 ++ (fixed ++ tl))))
    (hd : o'.IsDictOf (intKind prog w) (stored kvs (hi * 2 ^ 381 + k) (.ref D))) (e : decF p (b.fmod p) (hi * 2 ^ 381 + k) = some (a, b', c)) (hrb : Rng p b) (hhi : hi = (j : Int))
    (r1 : Rng p a) (r2 : Rng p b') (r3 : Rng p c) (ip : PtIn tl7 D p a b' c) (o1 : ∀ q ∈ tl7, q.1 ≠ I2) (o2 : ∀ q ∈ tl7, q.1 ≠ I) (o3 : ∀ q ∈ tl7, q.1 ≠ fd)
    (ho1 : ∀ q ∈ (fd, o) :: (fixed ++ tl), q.1 ≠ I) (ho2 : ∀ q ∈ (I, oI) :: (fd, o) :: (fixed ++ tl), q.1 ≠ I2)
    (hr : ∀ z, z ≠ x → stored₀.contains z = false → m' z = m₀ z) :
    FEnd g L (fun c : Obj × List (Addr × Obj) => (I, oI) :: (fd, c.1) :: (fixed ++ c.2)) (fun _ => []) x stored₀ m₀ (fun c => (∃ kvs, FInv prog w p b fd fixed tl1 (ks ++ keys8 k (j + 1)) c.1 kvs c.2) ∧ ∀ q ∈ (fd, c.1) :: (fixed ++ c.2), q.1 ≠ I) I2 oI2 s₀ { s₀ with heap := h', toks := tk' } := by
  rw [fmod_self hrb, hhi] at e
  rw [hhi] at hd
  have mem3 : ∀ q ∈ fixed ++ (tl7 ++ tl), q ∈ tl7 ∨ q ∈ fixed ++ tl := by
    intro q hq
    rcases List.mem_append.mp hq with hq | hq
    · exact .inr (List.mem_append.mpr (.inl hq))
    · exact (List.mem_append.mp hq).imp id fun hq => List.mem_append.mpr (.inr hq)
  refine fend (o', tl7 ++ tl) F N (.head _) ?_ ?_ (fun _ h => nomatch h) (fun z h1 _ h3 => hr z h1 h3) ⟨⟨stored kvs ((j : Int) * 2 ^ 381 + k) (.ref D), ?_⟩, ?_⟩
  · intro q hq
    rcases List.mem_cons.mp hq with rfl | hq
    · exact .tail _ (.head _)
    · rcases List.mem_cons.mp hq with rfl | hq
      · exact .tail _ (.tail _ (.head _))
      · exact .tail _ (.tail _ (.tail _ (List.mem_append.mpr (mem3 q hq))))
  · intro q hq
    rcases List.mem_cons.mp hq with rfl | hq
    · exact ho2 (I, oI) (.head _)
    · rcases List.mem_cons.mp hq with rfl | hq
      · exact ho2 (fd, o) (.tail _ (.head _))
      · rcases mem3 q hq with hq | hq
        · exact o1 q hq
        · exact ho2 q (.tail _ (.tail _ hq))
  · rw [keys8_succ, ← List.append_assoc]
    exact finv_some hP hd e r1 r2 r3 ip o3
  · intro q hq
    rcases List.mem_cons.mp hq with rfl | hq
    · exact ho1 (fd, o) (.head _)
    · rcases mem3 q hq with hq | hq
      · exact o2 q hq
      · exact ho1 q (.tail _ hq)
/-- the end of the turn of `for high`: no form -/
theorem fend_no (hP : FInv prog w p b fd fixed tl1 (ks ++ keys8 k j) o kvs tl)
    (F : Fr g L h' m') (N : News g L h' ((I2, oI2) :: (I, oI) :: (fd, o) :: (fixed ++ tl)))
    (e : decF p (b.fmod p) (hi * 2 ^ 381 + k) = none) (hrb : Rng p b) (hhi : hi = (j : Int))
    (ho1 : ∀ q ∈ (fd, o) :: (fixed ++ tl), q.1 ≠ I) (ho2 : ∀ q ∈ (I, oI) :: (fd, o) :: (fixed ++ tl), q.1 ≠ I2)
    (hr : ∀ z, z ≠ x → stored₀.contains z = false → m' z = m₀ z) :
    FEnd g L (fun c : Obj × List (Addr × Obj) => (I, oI) :: (fd, c.1) :: (fixed ++ c.2)) (fun _ => []) x stored₀ m₀ (fun c => (∃ kvs, FInv prog w p b fd fixed tl1 (ks ++ keys8 k (j + 1)) c.1 kvs c.2) ∧ ∀ q ∈ (fd, c.1) :: (fixed ++ c.2), q.1 ≠ I) I2 oI2 s₀ { s₀ with heap := h', toks := tk' } := by
  rw [fmod_self hrb, hhi] at e
  refine fend (o, tl) F N (.head _) (fun q hq => .tail _ hq) ho2 (fun _ h => nomatch h) (fun z h1 _ h3 => hr z h1 h3) ⟨⟨kvs, ?_⟩, ho1⟩
  rw [keys8_succ, ← List.append_assoc]
  exact finv_none hP e
end
end Bb
namespace Bb
theorem ints_of {vs : List Value} : ∀ {ns : List Int}, vs.length = ns.length → (∀ (j : Nat) (v : Value), vs[j]? = some v → ∃ k t, ns[j]? = some k ∧ v = .int k t) → IntsAre vs ns := by
  induction vs with
  | nil =>
    intro ns hl _
    cases ns with
    | nil => exact .nil
    | cons a ns => simp at hl
  | cons v vs ih =>
    intro ns hl h
    cases ns with
    | nil => simp at hl
    | cons a ns =>
      obtain ⟨k, t, e1, e2⟩ := h 0 v rfl
      simp only [List.getElem?_cons_zero, Option.some.injEq] at e1
      rw [e2, ← e1]
      refine .cons a t (ih (by simpa using hl) fun j u hu => ?_)
      obtain ⟨k, t, e1, e2⟩ := h (j + 1) u (by simpa using hu)
      exact ⟨k, t, by simpa using e1, e2⟩
section
variable {prog : Program} {w : World} {A : Around} {E : Value → Shared → Prop} {s : Shared} {h₀ : Heap} {L d : Addr} {m : Str → Option Value} {news : List (Addr × Obj)} {o : Obj} {kvs : List (Int × Value)} {Q : Value → Shared → Prop}
/-- sort() of a list of ints that lies at the ledger's head -/
theorem sort_head {D : Addr} {vs : List Value} {ns : List Int} (F : Fr h₀ L s.heap m) (N : News h₀ L s.heap ((D, listOf vs.toArray 0) :: news)) (hlt : ∀ q ∈ news, q.1 < D) (hi : IntsAre vs ns) (h64 : vs.length < 64)
    (h : ∀ (out : Array Value) ns' c h', Fr h₀ L h' m → News h₀ L h' ((D, listOf out c) :: news) → IntsAre out.toList ns' → ns'.Perm ns → ns'.Pairwise (· ≤ ·) → Q .none { s with heap := h' }) :
    wpAny (model prog w) A (call (.builtin "list.sort") [.ref D]) Q E s := by
  have z := N _ (.head _)
  have ho : s.heap.get? D = some (seqObj "list" vs.toArray 0) := z.1
  refine wpAny_call_entry PyProof.Rows.slot_list_sort ⟨_, z.1, rfl⟩ PyProof.Rows.entry_list_sort (list_sort_tree (n := 0) (vs := vs) ho hi h64 fun out ns' hI hp hP => ⟨.none, rfl, ?_⟩) (PyProof.Rows.args_list_sort _)
  obtain ⟨c, hc⟩ := sortedHeap_at (out := out) ho
  have old : ∀ b o, b ≠ D → s.heap.get? b = some o → (sortedHeap s.heap D vs out).get? b = some o := fun b o hb e => by
    rw [sortedHeap_old hb (Heap.lt_size e)]; exact e
  refine h out ns' c _ ?_ ?_ hI hp hP
  · obtain ⟨oL, a1, a2, hL, a3⟩ := F.ns
    exact ⟨⟨oL, a1, a2, old _ _ (fun e => z.2.1 e.symm) hL, a3⟩, fun b o e => old b o (fun q => by rw [q, z.2.2] at e; cases e) (F.keep b o e), F.above⟩
  · intro q hq
    rcases List.mem_cons.mp hq with rfl | hq
    · exact ⟨hc, z.2⟩
    · have t := N q (.tail _ hq)
      exact ⟨old _ _ (Nat.ne_of_lt (hlt q hq)) t.1, t.2⟩
/-- sorted(d) of a dict whose keys are ints -/
theorem sorted_forms (hh : A.handled = none) (F : Fr h₀ L s.heap m) (N : News h₀ L s.heap news) (hp : (d, o) ∈ news) (hd : o.IsDictOf (intKind prog w) kvs) (lo : (d == sysModules) = false) (h64 : kvs.length < 64)
    (h : ∀ D (out : Array Value) ns c h' tk, Fr h₀ L h' m → News h₀ L h' ((D, listOf out c) :: news) → (∀ q ∈ news, q.1 < D) → IntsAre out.toList ns → ns.Perm (kvs.map (·.1)) → ns.Pairwise (· ≤ ·) → Q (.ref D) { s with heap := h', toks := tk }) :
    wpAny (model prog w) A (call (.builtin "sorted") [.ref d]) Q E s := by
  obtain ⟨ep, hat⟩ := (kda_dict N hp hd).dictAt
  refine kdu_sorted (kdl_dict (knd := intKind prog w) (kvs := kvs) (ep := ep) lo) hh F N hat (by rw [sizeLine_eq]; omega) fun D h' tk vs F' N' l1 hl hv => ?_
  have hi : IntsAre vs (kvs.map (·.1)) := by
    refine ints_of (by rw [List.length_map]; exact hl) fun j v e => ?_
    obtain ⟨k, x, e1, e2⟩ := hv j v e
    obtain ⟨t, e3⟩ := Value.isInt_shape (k := k) (v := v) e2
    exact ⟨k, t, by rw [List.getElem?_map, e1]; rfl, e3⟩
  exact sort_head (s := { s with heap := h', toks := tk }) F' N' l1 hi (by omega) fun out ns' c h2 F2 N2 hI hp hP => h D out ns' c h2 tk F2 N2 l1 hI hp hP
/-- sorted(l) of the comprehension's list of ints -/
theorem sorted_nums {l : Addr} {ys : List Value} {ns : List Int} (F : Fr h₀ L s.heap m) (N : News h₀ L s.heap news) (hm : (l, LCg.lst ys) ∈ news) (hi : IntsAre ys ns) (h64 : ns.length < 64)
    (h : ∀ D (out : Array Value) ns' c h', Fr h₀ L h' m → News h₀ L h' ((D, listOf out c) :: news) → (∀ q ∈ news, q.1 < D) → IntsAre out.toList ns' → ns'.Perm ns → ns'.Pairwise (· ≤ ·) → Q (.ref D) { s with heap := h' }) :
    wpAny (model prog w) A (call (.builtin "sorted") [.ref l]) Q E s := by
  have e1 := IntsAre.length hi
  refine sorted_N F N ⟨_, (N _ hm).1, rfl, _, rfl⟩ hi (by omega) fun h' vs' ns' e F' N' a1 a2 a3 => h _ vs'.toArray ns' e h' F' N' (fun p hp => Nat.lt_succ_of_lt (Heap.lt_size (N p hp).1)) a1 a2 a3
end
end Bb
namespace Bb
theorem ne_lists {prog : Program} {w : World} {A : Around} {E : Value → Shared → Prop} {s : Shared} {h₀ : Heap} {L : Addr} {news : List (Addr × Obj)} {Q : Value → Shared → Prop} {D₁ D₂ : Addr} {v₁ v₂ : Array Value} {n₁ n₂ : List Int} {c₁ c₂ : Nat}
    (N : News h₀ L s.heap news) (m1 : (D₁, listOf v₁ c₁) ∈ news) (m2 : (D₂, listOf v₂ c₂) ∈ news) (i1 : IntsAre v₁.toList n₁) (i2 : IntsAre v₂.toList n₂) (e : n₁ = n₂) (hu : A.units + 64 < cLine) (h : Q (.bool false) s) :
    wpAny (model prog w) A (compareOp .NotEq (.ref D₁) (.ref D₂)) Q E s := by
  refine ne_intsK (s := s) (a := D₁) (b := D₂) (vs := v₁.toList) (us := v₂.toList) (ns := n₁) (ms := n₂) ?_ i1 ?_ i2 hu ?_
  · exact ⟨_, (N _ m1).1, rfl, _, by rw [Array.toArray_toList]⟩
  · exact ⟨_, (N _ m2).1, rfl, _, by rw [Array.toArray_toList]⟩
  · subst e; simpa using h
end Bb
namespace Bb
/-- a point of the law, as decompress_G1 gives it -/
def embF : LP → Int × Int × Int
  | none => (1, 1, 0)
  | some (x, y) => (x, y, 1)
abbrev numsF (p b : Int) : List Int := (ptsF p b (p - 1).toNat).map (numF p)
/-- the opposite -/
def oppF (p : Int) : LP → LP
  | none => none
  | some (x, y) => some (x, p - y)
theorem mm1 (a b q : Int) : a % q * b % q = a * b % q := by rw [Int.mul_emod, Int.emod_emod_of_dvd a (Int.dvd_refl q), ← Int.mul_emod]
theorem mm2 (a b q : Int) : a * (b % q) % q = a * b % q := by rw [Int.mul_emod, Int.emod_emod_of_dvd b (Int.dvd_refl q), ← Int.mul_emod]
theorem ms1 (a b q : Int) : (a % q - b) % q = (a - b) % q := by rw [Int.sub_emod, Int.emod_emod_of_dvd a (Int.dvd_refl q), ← Int.sub_emod]
theorem ms2 (a b q : Int) : (a - b % q) % q = (a - b) % q := by rw [Int.sub_emod, Int.emod_emod_of_dvd b (Int.dvd_refl q), ← Int.sub_emod]
theorem genF_scale (q x1 y1 z1 x2 y2 z2 z : Int) : genF q x1 y1 z1 (x2 * z % q) (y2 * z % q) (z2 * z % q) =
    ((genF q x1 y1 z1 x2 y2 z2).1 * z ^ 4 % q, (genF q x1 y1 z1 x2 y2 z2).2.1 * z ^ 4 % q, (genF q x1 y1 z1 x2 y2 z2).2.2 * z ^ 4 % q) := by
  simp only [genF, mm1, mm2, ms1, ms2, Prod.mk.injEq]
  refine ⟨?_, ?_, ?_⟩
  · congr 1; grind
  · congr 1; grind
  · congr 1; grind
/-- the affine point of a form -/
def affF (q : Int) (t : Int × Int × Int) : LP := if t.2.2 = 0 then none else some (t.1 * inv q t.2.2 % q, t.2.1 * inv q t.2.2 % q)
def sclF (q z : Int) (t : Int × Int × Int) : Int × Int × Int := (t.1 * z % q, t.2.1 * z % q, t.2.2 * z % q)
theorem inv_scale7 : ∀ c z : Fin 7, z.val ≠ 0 → inv 7 ((c.val : Int) * z.val % 7) * z.val % 7 = inv 7 c.val ∧ ((c.val : Int) * z.val % 7 = 0 → c.val = 0) := by decide +kernel
theorem inv_scale19 : ∀ c z : Fin 19, z.val ≠ 0 → inv 19 ((c.val : Int) * z.val % 19) * z.val % 19 = inv 19 c.val ∧ ((c.val : Int) * z.val % 19 = 0 → c.val = 0) := by decide +kernel
theorem inv_scale {p c z : Int} (hp : p = 7 ∨ p = 19) (hc : Rng p c) (hz : Rng p z ∧ z ≠ 0) : inv p (c * z % p) * z % p = inv p c ∧ (c * z % p = 0 → c = 0) := by
  obtain ⟨n, rfl⟩ := Int.eq_ofNat_of_zero_le hc.1
  obtain ⟨m, rfl⟩ := Int.eq_ofNat_of_zero_le hz.1.1
  have h1 := hc.2
  have h2 := hz.1.2
  have h3 := hz.2
  rcases hp with rfl | rfl
  · have h := inv_scale7 ⟨n, by omega⟩ ⟨m, by omega⟩ (by simp only; omega)
    exact ⟨h.1, fun e => by have := h.2 e; simp only at this; omega⟩
  · have h := inv_scale19 ⟨n, by omega⟩ ⟨m, by omega⟩ (by simp only; omega)
    exact ⟨h.1, fun e => by have := h.2 e; simp only at this; omega⟩
theorem affF_scale {p a b c z : Int} (hp : p = 7 ∨ p = 19) (hc : Rng p c) (hz : Rng p z ∧ z ≠ 0) : affF p (sclF p z (a, b, c)) = affF p (a, b, c) := by
  obtain ⟨h1, h2⟩ := inv_scale hp hc hz
  unfold affF sclF
  simp only
  by_cases h : c = 0
  · rw [if_pos h, if_pos (by rw [h, Int.zero_mul, Int.zero_emod])]
  · rw [if_neg h, if_neg (fun e => h (h2 e))]
    have key : ∀ a : Int, a * z % p * inv p (c * z % p) % p = a * inv p c % p := fun a => by
      rw [mm1, Int.mul_assoc, ← mm2, Int.mul_comm z, h1]
    rw [key a, key b]
/-- what is scaled can be scaled back -/
theorem unit7 : ∀ z : Fin 7, z.val ≠ 0 → (z.val : Int) * inv 7 z.val % 7 = 1 ∧ (z.val : Int) ^ 4 % 7 ≠ 0 := by decide +kernel
theorem unit19 : ∀ z : Fin 19, z.val ≠ 0 → (z.val : Int) * inv 19 z.val % 19 = 1 ∧ (z.val : Int) ^ 4 % 19 ≠ 0 := by decide +kernel
theorem unit_of {p z : Int} (hp : p = 7 ∨ p = 19) (hz : Rng p z ∧ z ≠ 0) : z * inv p z % p = 1 ∧ z ^ 4 % p ≠ 0 := by
  obtain ⟨m, rfl⟩ := Int.eq_ofNat_of_zero_le hz.1.1
  have h2 := hz.1.2
  have h3 := hz.2
  rcases hp with rfl | rfl
  · exact unit7 ⟨m, by omega⟩ (by simp only; omega)
  · exact unit19 ⟨m, by omega⟩ (by simp only; omega)
theorem cancel {p z A B : Int} (hp : p = 7 ∨ p = 19) (hz : Rng p z ∧ z ≠ 0) : A * z % p = B * z % p ↔ A % p = B % p := by
  have hu := (unit_of hp hz).1
  constructor
  · intro h
    have key : ∀ A : Int, A * z % p * inv p z % p = A % p := fun A => by rw [mm1, Int.mul_assoc, ← mm2, hu, Int.mul_one]
    rw [← key A, ← key B, h]
  · intro h
    rw [← mm1 A, ← mm1 B, h]
theorem addF_scale {p x1 y1 z1 x2 y2 z2 z : Int} (hp : p = 7 ∨ p = 19) (hz : Rng p z ∧ z ≠ 0) (h2 : Rng p z2) :
    affF p (addF p x1 y1 z1 (x2 * z % p) (y2 * z % p) (z2 * z % p)) = affF p (addF p x1 y1 z1 x2 y2 z2) := by
  have hp0 : 0 < p := by omega
  have hzz : z2 * z % p = 0 ↔ z2 = 0 := ⟨(inv_scale hp h2 hz).2, fun e => by rw [e, Int.zero_mul, Int.zero_emod]⟩
  have cx : ∀ u v w t : Int, u * z % p * v % p = w * (t * z % p) % p ↔ u * v % p = w * t % p := fun u v w t => by
    rw [mm1, mm2, Int.mul_right_comm, ← Int.mul_assoc]
    exact cancel hp hz
  unfold addF
  by_cases h : z2 = 0
  · rw [if_pos (hzz.mpr h), if_pos h]
  · rw [if_neg (fun e => h (hzz.mp e)), if_neg h]
    by_cases h1 : z1 = 0
    · rw [if_pos h1, if_pos h1]
      exact affF_scale hp h2 hz
    · rw [if_neg h1, if_neg h1]
      by_cases h3 : x2 * z1 % p = x1 * z2 % p
      · rw [if_pos ((cx _ _ _ _).mpr h3), if_pos h3]
        by_cases h4 : y2 * z1 % p = y1 * z2 % p
        · rw [if_pos ((cx _ _ _ _).mpr h4), if_pos h4]
        · rw [if_neg (fun e => h4 ((cx _ _ _ _).mp e)), if_neg h4]
      · rw [if_neg (fun e => h3 ((cx _ _ _ _).mp e)), if_neg h3, genF_scale]
        have hg : Rng p (genF p x1 y1 z1 x2 y2 z2).2.2 := ⟨Int.emod_nonneg _ (by omega), Int.emod_lt_of_pos _ hp0⟩
        rw [← mm2 _ (z ^ 4), ← mm2 _ (z ^ 4), ← mm2 _ (z ^ 4)]
        exact affF_scale hp hg ⟨⟨Int.emod_nonneg _ (by omega), Int.emod_lt_of_pos _ hp0⟩, (unit_of hp hz).2⟩
theorem cmp_num {p a b c : Int} (hp : p = 7 ∨ p = 19) : cmpF p a b c = numF p (affF p (a, b, c)) := by
  unfold cmpF affF
  simp only
  by_cases h : c = 0
  · rw [if_pos h, if_pos h]; rfl
  · rw [if_neg h, if_neg h]
    have h0 := Int.emod_nonneg (b * inv p c) (show p ≠ 0 by omega)
    have h1 := Int.emod_lt_of_pos (b * inv p c) (show 0 < p by omega)
    unfold numF
    simp only
    generalize b * inv p c % p = y at h0 h1
    generalize a * inv p c % p = x
    by_cases h2 : p < 2 * y
    · rw [if_pos h2, show y * 2 / p = 1 by
        rcases hp with rfl | rfl <;> omega, Int.one_mul]
      omega
    · rw [if_neg h2, show y * 2 / p = 0 by
        rcases hp with rfl | rfl <;> omega, Int.zero_mul]
      omega
/-- the eight curves, looked through -/
def addChk (p b : Int) : Bool := (ptsF p b (p - 1).toNat).all fun o => (ptsF p b (p - 1).toNat).all fun d => decide (affF p (addF p (embF o).1 (embF o).2.1 (embF o).2.2 (embF d).1 (embF d).2.1 (embF d).2.2) = sumF p o d)
def negChk (p b : Int) : Bool := (ptsF p b (p - 1).toNat).all fun d => decide (affF p ((embF d).1, -(embF d).2.1, (embF d).2.2) = oppF p d) && decide (0 ≤ (embF d).2.2 ∧ (embF d).2.2 < p)
def decChk (p b : Int) : Bool := (ptsF p b (p - 1).toNat).all fun o => decide (decF p b (numF p o) = some (embF o))
def keyChk (p b : Int) : Bool := (keysOf (rangeKs 0 (p + 2 - 0).toNat)).all fun k => !(decF p b k).isSome || (numsF p b).contains k
def numChk (p b : Int) : Bool := (numsF p b).all fun k => (keysOf (rangeKs 0 (p + 2 - 0).toNat)).contains k
theorem add_1 : addChk 7 3 = true := by decide +kernel
theorem add_2 : addChk 7 5 = true := by decide +kernel
theorem add_3 : addChk 19 2 = true := by decide +kernel
theorem add_4 : addChk 19 3 = true := by decide +kernel
theorem add_5 : addChk 19 10 = true := by decide +kernel
theorem add_6 : addChk 19 13 = true := by decide +kernel
theorem add_7 : addChk 19 14 = true := by decide +kernel
theorem add_8 : addChk 19 15 = true := by decide +kernel
theorem neg_all {p b : Int} (hp : p = 7 ∨ p = 19) (hG : GoodB p b) : negChk p b = true := by
  rcases good_cases hp hG with ⟨rfl, rfl | rfl⟩ | ⟨rfl, rfl | rfl | rfl | rfl | rfl | rfl⟩ <;> decide +kernel
theorem dec_all {p b : Int} (hp : p = 7 ∨ p = 19) (hG : GoodB p b) : decChk p b = true := by
  rcases good_cases hp hG with ⟨rfl, rfl | rfl⟩ | ⟨rfl, rfl | rfl | rfl | rfl | rfl | rfl⟩ <;> decide +kernel
theorem key_all {p b : Int} (hp : p = 7 ∨ p = 19) (hG : GoodB p b) : keyChk p b = true := by
  rcases good_cases hp hG with ⟨rfl, rfl | rfl⟩ | ⟨rfl, rfl | rfl | rfl | rfl | rfl | rfl⟩ <;> decide +kernel
theorem num_all {p b : Int} (hp : p = 7 ∨ p = 19) (hG : GoodB p b) : numChk p b = true := by
  rcases good_cases hp hG with ⟨rfl, rfl | rfl⟩ | ⟨rfl, rfl | rfl | rfl | rfl | rfl | rfl⟩ <;> decide +kernel
theorem nod_all {p b : Int} (hp : p = 7 ∨ p = 19) (hG : GoodB p b) : (numsF p b).Nodup := by
  rcases good_cases hp hG with ⟨rfl, rfl | rfl⟩ | ⟨rfl, rfl | rfl | rfl | rfl | rfl | rfl⟩ <;> decide +kernel
theorem add_all {p b : Int} (hp : p = 7 ∨ p = 19) (hG : GoodB p b) : addChk p b = true := by
  rcases good_cases hp hG with ⟨rfl, rfl | rfl⟩ | ⟨rfl, rfl | rfl | rfl | rfl | rfl | rfl⟩
  · exact add_1
  · exact add_2
  · exact add_3
  · exact add_4
  · exact add_5
  · exact add_6
  · exact add_7
  · exact add_8
theorem dec_num {p b : Int} (hp : p = 7 ∨ p = 19) (hG : GoodB p b) : ∀ o ∈ ptsF p b (p - 1).toNat, decF p b (numF p o) = some (embF o) := by
  intro o ho
  exact of_decide_eq_true (List.all_eq_true.mp (dec_all hp hG) o ho)
theorem add_num {p b : Int} (hp : p = 7 ∨ p = 19) (hG : GoodB p b) {o d : LP} (ho : o ∈ ptsF p b (p - 1).toNat) (hd : d ∈ ptsF p b (p - 1).toNat) {z a b' c x y w x' y' w' r1 r2 r3 : Int} (hz : Rng p z ∧ z ≠ 0)
    (e1 : embF o = (a, b', c)) (e2 : embF d = (x, y, w)) (h1 : x' = x * z % p) (h2 : y' = y * z % p) (h3 : w' = w * z % p) (h4 : (r1, r2, r3) = addF p a b' c x' y' w') : cmpF p r1 r2 r3 = numF p (sumF p o d) := by
  have hc := of_decide_eq_true (List.all_eq_true.mp (List.all_eq_true.mp (add_all hp hG) o ho) d hd)
  have hn := List.all_eq_true.mp (neg_all hp hG) d hd
  rw [Bool.and_eq_true] at hn
  have hw0 := of_decide_eq_true hn.2
  have hw : Rng p (embF d).2.2 := hw0
  rw [e1, e2] at hc
  rw [e2] at hw
  simp only at hc hw
  rw [cmp_num hp, h4, h1, h2, h3, addF_scale hp hz hw, hc]
theorem neg_num {p b : Int} (hp : p = 7 ∨ p = 19) (hG : GoodB p b) {d : LP} (hd : d ∈ ptsF p b (p - 1).toNat) {z x y w x' y' w' r1 r2 r3 : Int} (hz : Rng p z ∧ z ≠ 0)
    (e2 : embF d = (x, y, w)) (h1 : x' = x * z % p) (h2 : y' = y * z % p) (h3 : w' = w * z % p) (h4 : (r1, r2, r3) = (x', (-y') % p, w')) : cmpF p r1 r2 r3 = numF p (oppF p d) := by
  have hn := List.all_eq_true.mp (neg_all hp hG) d hd
  rw [Bool.and_eq_true] at hn
  have hc := of_decide_eq_true hn.1
  have hw0 := of_decide_eq_true hn.2
  have hw : Rng p (embF d).2.2 := hw0
  rw [e2] at hc hw
  simp only at hc hw
  have hy : (-y') % p = (-y) * z % p := by
    rw [h2, ← Int.zero_sub, ms2, Int.zero_sub, Int.neg_mul]
  have hs : ((x', (-y') % p, w') : Int × Int × Int) = sclF p z (x, -y, w) := by
    rw [hy, h1, h3]; rfl
  rw [cmp_num hp, h4, hs, affF_scale hp hw hz, hc]
theorem opp_ok {p b : Int} (hp : p = 7 ∨ p = 19) (hG : GoodB p b) : ∀ o ∈ ptsF p b (p - 1).toNat, LPok p (oppF p o) := by
  have h : ((ptsF p b (p - 1).toNat).all fun o => lpokB p (oppF p o)) = true := by
    rcases good_cases hp hG with ⟨rfl, rfl | rfl⟩ | ⟨rfl, rfl | rfl | rfl | rfl | rfl | rfl⟩ <;> decide +kernel
  exact fun o ho => lpokB_ok (List.all_eq_true.mp h o ho)
theorem far_none {p b X k : Int} (hp : p = 7 ∨ p = 19) (h1 : p + 2 ≤ X) (h2 : X < 2 ^ 381) (hk : k ∈ keys8 X 8) : decF p b k = none := by
  unfold keys8 at hk
  obtain ⟨h, _, rfl⟩ := List.mem_map.mp hk
  have hm : ((h : Int) * 2 ^ 381 + X) % 2 ^ 381 = X := by
    rw [Int.add_comm, Int.add_mul_emod_self_right, Int.emod_eq_of_lt (by omega) h2]
  have h3 : ¬ ((h : Int) * 2 ^ 381 + X) % 2 ^ 381 = 0 := by rw [hm]; omega
  cases hb : bitZ ((h : Int) * 2 ^ 381 + X) 383 with
  | false => exact decF_1 hb
  | true =>
    cases hc : (bitZ ((h : Int) * 2 ^ 381 + X) 382 != decide (((h : Int) * 2 ^ 381 + X) % 2 ^ 381 = 0)) with
    | true => exact decF_2 hb hc
    | false => exact decF_5 hb hc h3 (by rw [fmod381, hm]; omega)
theorem near_key {p X k : Int} (h0 : 0 ≤ X) (h1 : X < p + 2) (hk : k ∈ keys8 X 8) : k ∈ keysOf (rangeKs 0 (p + 2 - 0).toNat) := by
  unfold keysOf
  refine List.mem_flatMap.mpr ⟨X, ?_, hk⟩
  unfold rangeKs
  exact List.mem_map.mpr ⟨X.toNat, List.mem_range.mpr (by omega), by omega⟩
theorem forms_keys {prog : Program} {w : World} {p b X : Int} {fd : Addr} {fixed tl1 tl : List (Addr × Obj)} {o : Obj} {kvs : List (Int × Value)} (hp : p = 7 ∨ p = 19) (hG : GoodB p b)
    (I : FInv prog w p b fd fixed tl1 (keysOf (List.map (fun k' => k') (rangeKs 0 (p + 2 - 0).toNat) ++ [X.fmod (2 ^ Int.toNat 381)])) o kvs tl) : (kvs.map (·.1)).Perm (numsF p b) := by
  have hnd : (kvs.map (·.1)).Nodup := by
    obtain ⟨es, ep, _, _, _, _, h⟩ := I.dict
    exact h
  refine (List.perm_ext_iff_of_nodup hnd (nod_all hp hG)).mpr fun k => ?_
  rw [I.keys k, List.map_id']
  have hX0 : 0 ≤ X.fmod (2 ^ Int.toNat 381) := by
    rw [show (2 : Int) ^ Int.toNat 381 = 2 ^ 381 from rfl, fmod_big (Int.pow_pos (by decide))]
    exact Int.emod_nonneg _ (Int.ne_of_gt (Int.pow_pos (by decide)))
  have hX1 : X.fmod (2 ^ Int.toNat 381) < 2 ^ 381 := by
    rw [show (2 : Int) ^ Int.toNat 381 = 2 ^ 381 from rfl, fmod_big (Int.pow_pos (by decide))]
    exact Int.emod_lt_of_pos _ (Int.pow_pos (by decide))
  generalize X.fmod (2 ^ Int.toNat 381) = Y at hX0 hX1
  have hsplit : keysOf (rangeKs 0 (p + 2 - 0).toNat ++ [Y]) = keysOf (rangeKs 0 (p + 2 - 0).toNat) ++ keys8 Y 8 := by
    unfold keysOf
    rw [List.flatMap_append, List.flatMap_singleton]
  rw [hsplit]
  constructor
  · rintro ⟨hk, hs⟩
    have hk' : k ∈ keysOf (rangeKs 0 (p + 2 - 0).toNat) := by
      rcases List.mem_append.mp hk with hk | hk
      · exact hk
      · by_cases hY : Y < p + 2
        · exact near_key hX0 hY hk
        · rw [far_none hp (by omega) hX1 hk] at hs; cases hs
    have h := List.all_eq_true.mp (key_all hp hG) k hk'
    rw [hs] at h
    simpa using h
  · intro hk
    have h := List.all_eq_true.mp (num_all hp hG) k hk
    obtain ⟨o', ho', rfl⟩ := List.mem_map.mp hk
    refine ⟨List.mem_append.mpr (.inl (by simpa using h)), ?_⟩
    rw [dec_num hp hG o' ho']; rfl
end Bb
namespace Bb
theorem LpIn.tail {l : List (Addr × Obj)} {x : Addr × Obj} {v : Value} {o : LP} (h : LpIn l v o) : LpIn (x :: l) v o := h.mono fun _ hq => .tail _ hq
section
variable {prog : Program} {w : World} {A : Around} {E : Value → Shared → Prop} {s : Shared} {h₀ : Heap} {L l : Addr} {news : List (Addr × Obj)} {Q : Value → Shared → Prop} {its : Array Value} {c : Nat}
theorem len_pts (N : News h₀ L s.heap news) (hm : (l, listOf its c) ∈ news) (h0 : 0 < its.size) (h37 : its.size ≤ 37)
    (h : ∀ n : Int, n = (its.size : Int) → 0 < n → n ≤ 37 → Q (.int n (s.toks + 1)) { s with toks := s.toks + 1 + 1 }) :
    wpAny (model prog w) A (call (.builtin "len") [.ref l]) Q E s :=
  call_len_list ⟨_, (N _ hm).1, rfl, _, rfl⟩ (by omega) (h _ rfl (by omega) (by omega))
theorem item_pts {value slice : PySem.Expr} {k : Int} {t : Tok} {nw : List (Addr × Obj)} {os : List LP} (N : News h₀ L s.heap news) (hm : (l, listOf its c) ∈ news) (hp : PtsAre nw its.toList os) (h0 : 0 ≤ k) (h1 : k < (its.size : Int)) (h37 : its.size ≤ 37)
    (h : ∀ v o, o ∈ os → LpIn nw v o → Q v s)
    (hs : subscripted slice false (.ref l) (.int k t) = operate [.ref l, .int k t] (getItem (.ref l) (.int k t)) := by with_unfolding_all rfl) :
    wpAny (model prog w) A (subscriptTail value slice (.ref l) (.int k t)) Q E s := by
  have hl : s.heap.IsList l its := ⟨_, (N _ hm).1, rfl, _, rfl⟩
  have hlt : k.toNat < its.size := by omega
  have hx : its[k.toNat]? = some its[k.toNat] := Array.getElem?_eq_getElem hlt
  obtain ⟨o, ho, hi⟩ := hp.get (i := k.toNat) (v := its[k.toNat]) (by rw [Array.getElem?_toList]; exact hx)
  exact tail_any hl.typeIs slot_list_getitem.lookup (wpAny_getItem_list hl h0 (by omega) hx (h _ o (List.mem_of_getElem? ho) hi)) hs
end
theorem valueAt_mem {kvs : List (Int × Value)} {k : Int} (h : k ∈ kvs.map (·.1)) : ∃ v, (k, v) ∈ kvs ∧ valueAt kvs k = some v := by
  obtain ⟨kv, hm, e⟩ := List.mem_map.mp h
  have hs : (kvs.find? fun kv => decide (kv.1 = k)).isSome = true := by
    rw [List.find?_isSome]
    exact ⟨kv, hm, by simp [e]⟩
  obtain ⟨kv', hf⟩ := Option.isSome_iff_exists.mp hs
  have h1 := List.mem_of_find?_eq_some hf
  have h2 := List.find?_some hf
  simp only [decide_eq_true_eq] at h2
  refine ⟨kv'.2, ?_, ?_⟩
  · rw [← h2]; exact h1
  · unfold valueAt; rw [hf]; rfl
/-- the forms, all made -/
structure FormsOk (prog : Program) (w : World) (p b : Int) (o : Obj) (kvs : List (Int × Value)) (nw : List (Addr × Obj)) : Prop where
  dict : o.IsDictOf (intKind prog w) kvs
  perm : (kvs.map (·.1)).Perm (numsF p b)
  vals : ∀ kv ∈ kvs, ∃ D a b' c, kv.2 = .ref D ∧ decF p b kv.1 = some (a, b', c) ∧ Rng p a ∧ Rng p b' ∧ Rng p c ∧ PtIn nw D p a b' c
section
variable {prog : Program} {w : World} {A : Around} {E : Value → Shared → Prop} {s : Shared} {h₀ : Heap} {L fd : Addr} {news fixed tl1 tl nw : List (Addr × Obj)} {Q : Value → Shared → Prop} {p b k : Int} {t : Tok} {ks : List Int} {o : Obj} {kvs : List (Int × Value)} {q : LP}
theorem forms_ok (hP : FInv prog w p b fd fixed tl1 ks o kvs tl) (hkp : (kvs.map (·.1)).Perm (numsF p b)) : FormsOk prog w p b o kvs tl := ⟨hP.dict, hkp, hP.vals⟩
/-- forms[number] -/
theorem form_item {value slice : PySem.Expr} (hP : FormsOk prog w p b o kvs nw) (hp : p = 7 ∨ p = 19) (hG : GoodB p b) (N : News h₀ L s.heap news) (hm : (fd, o) ∈ news) (hq : q ∈ ptsF p b (p - 1).toNat) (hk : k = numF p q)
    (h : ∀ D a b' c, embF q = (a, b', c) → Rng p a → Rng p b' → Rng p c → PtIn nw D p a b' c → Q (.ref D) { s with toks := s.toks + 1 })
    (hs : subscripted slice false (.ref fd) (.int k t) = operate [.ref fd, .int k t] (getItem (.ref fd) (.int k t)) := by with_unfolding_all rfl) (hg : ∀ r, letTemporaryGo value (.ref fd) r = pure () := by intro _; with_unfolding_all rfl) :
    wpAny (model prog w) A (subscriptTail value slice (.ref fd) (.int k t)) Q E s := by
  have hmem : k ∈ kvs.map (·.1) := hP.perm.mem_iff.mpr (by rw [hk]; exact List.mem_map.mpr ⟨q, hq, rfl⟩)
  obtain ⟨v, hv, hva⟩ := valueAt_mem hmem
  obtain ⟨D, a, b', c, e1, e2, r1, r2, r3, hpt⟩ := hP.vals _ hv
  simp only at e1 e2
  subst e1
  have e3 := dec_num hp hG q hq
  rw [hk, e3] at e2
  exact kda_item (knd := intKind prog w) N hm hP.dict (intKind_is prog w k t) hva (h D a b' c (Option.some.inj e2) r1 r2 r3 hpt) hs hg
end
end Bb
namespace Bb
theorem ptsF_pos (p b : Int) : ∀ n, 0 < (ptsF p b n).length
  | 0 => by simp [ptsF]
  | n + 1 => by
    have := ptsF_pos p b n
    rw [ptsF, List.length_append]
    omega
theorem zn_ok {p : Int} (hp : p = 7 ∨ p = 19) (X : Int) : Rng p ((1 + X.fmod (p - 1)) % p) ∧ (1 + X.fmod (p - 1)) % p ≠ 0 := by
  have h1 : 0 ≤ X.fmod (p - 1) ∧ X.fmod (p - 1) < p - 1 := by
    rw [Int.fmod_eq_emod_of_nonneg X (by omega)]
    exact ⟨Int.emod_nonneg _ (by omega), Int.emod_lt_of_pos _ (by omega)⟩
  rw [Int.emod_eq_of_lt (show 0 ≤ 1 + X.fmod (p - 1) by omega) (by omega)]
  exact ⟨⟨by omega, by omega⟩, by omega⟩
end Bb
namespace Bb
theorem fm_0 {X n : Int} (h : 0 < n) : 0 ≤ X.fmod n := by rw [Int.fmod_eq_emod_of_nonneg X (Int.le_of_lt h)]; exact Int.emod_nonneg _ (by omega)
theorem fm_1 {X n m : Int} (e : n = m) (h : 0 < n) : X.fmod n < m := by rw [← e, Int.fmod_eq_emod_of_nonneg X (Int.le_of_lt h)]; exact Int.emod_lt_of_pos _ h
end Bb
namespace Bb
theorem zn_ok' {p X v : Int} (hp : p = 7 ∨ p = 19) (e : v = (1 + X.fmod (p - 1)) % p) : Rng p v ∧ v ≠ 0 := e ▸ zn_ok hp X
theorem embF_none {a b c : Int} (h : embF none = (a, b, c)) : 1 = a ∧ 1 = b ∧ 0 = c := by
  simp only [embF, Prod.mk.injEq] at h; exact h
theorem embF_some {x y a b c : Int} (h : embF (some (x, y)) = (a, b, c)) : x = a ∧ y = b ∧ 1 = c := by
  simp only [embF, Prod.mk.injEq] at h; exact h
theorem self_mod {p x v : Int} (h : Rng p x) (e : v = x % p) : x = v := by rw [e]; exact (Int.emod_eq_of_lt h.1 h.2).symm
theorem one_self {p v : Int} (hp : p = 7 ∨ p = 19) (e : v = 1 % p) : 1 = v := by rw [e]; exact (one_mod hp).symm
section
variable {prog : Program} {w : World} {A : Around} {E : Value → Shared → Prop} {s : Shared} {env : Env} {h₀ : Heap} {x : Str} {body : List Stmt} {Q : Flow → Shared → Prop}
/-- for point in points: nothing that is made stays -/
theorem for_pts {l : Addr} {vs : Array Value} {k : Nat} {m₀ : Str → Option Value} {news : List (Addr × Obj)} (stored : List Str)
    (hh : A.handled = none) (hl : (l, listOf vs k) ∈ news) (F : Fr h₀ env.locals s.heap m₀) (N : News h₀ env.locals s.heap news)
    (turn : ∀ (I : Addr) (i : Nat) (v : Value) (u : Str → Option Value) (h : Heap) (tk : Nat) (oI : Obj), i < vs.size → vs[i]? = some v → (∀ q ∈ news, q.1 ≠ I) → Fr h₀ env.locals h (fun y => if y = x then some v else (if stored.contains y then u y else m₀ y)) → News h₀ env.locals h ((I, oI) :: news) →
      wpAny (model prog w) A (execs body env) (FPost h₀ env.locals (fun _ : Unit => news) (fun _ => []) x stored m₀ (fun _ => True) I oI { s with heap := h, toks := tk } Q) E { s with heap := h, toks := tk })
    (done : ∀ (u : Str → Option Value) (h : Heap) (tk : Nat), Fr h₀ env.locals h (fun y => if y = x then u y else (if stored.contains y then u y else m₀ y)) → News h₀ env.locals h news → Q .next { s with heap := h, toks := tk }) :
    wpAny (model prog w) A (pyIter (.ref l)) (fun it s₂ => LoopAtV prog w A h₀ env x body Q E it s₂) E s :=
  for_lst (vs := vs) (k := k) (fun _ : Unit => news) (fun _ => []) stored (fun _ _ => True) () hh (fun _ => hl) F N (fun _ h => nomatch h) trivial
    (fun I i v _ u h tk oI _ hi hv _ hoff F' N' => turn I i v u h tk oI hi hv hoff F' N') (fun _ u h tk _ F' N' => done u h tk F' N')
theorem fend_pts {g h' : Heap} {L I : Addr} {oI : Obj} {stored : List Str} {m₀ m' : Str → Option Value} {news news' : List (Addr × Obj)} {s₀ : Shared} {tk' : Nat}
    (F : Fr g L h' m') (N : News g L h' news') (hI : (I, oI) ∈ news') (hn : ∀ p ∈ news, p ∈ news') (ho : ∀ p ∈ news, p.1 ≠ I) (hr : ∀ z, z ≠ x → stored.contains z = false → m' z = m₀ z) :
    FEnd g L (fun _ : Unit => news) (fun _ => []) x stored m₀ (fun _ => True) I oI s₀ { s₀ with heap := h', toks := tk' } :=
  fend () F N hI hn ho (fun _ h => nomatch h) (fun z h1 _ h3 => hr z h1 h3) trivial
end
end Bb
namespace Bb
end Bb
example : (fun (_ : OpenLaw) (_ : Params → Frag) => True) PySem.Challenge.rw_bb0060_01 bb_hd.heap_39 := by k_fill; trivial
namespace Bb
local macro_rules | `(tactic| k_room) => `(tactic| ((try simp only [depth_under_make, depth_under_kw, depth_in1, depth_deeper, depth_caller]); (show _ < 1000); omega))
local macro_rules | `(tactic| k_units) => `(tactic| ((try simp only [units_in1, units_deeper, Around.mark_units, units_caller, aa_units]); (show _ < 9900); omega))
local macro_rules | `(tactic| k_inst) => `(tactic| exact inst_keeps (Fr.keep (by assumption)) (by assumption))
local macro_rules | `(tactic| k_inst) => `(tactic| exact inst_keeps (stays_out (by assumption)) (by assumption))
local macro_rules | `(tactic| walk_at "bb cx") => `(tactic| (refine' ⟨?B, ?F, ?X, ?N, ?T, ?hf, ?hke, ?hd, ?hu⟩; (case F => k_asm); (case N => k_asm); (case X => k_asm); (case T => k_asm); (case B => k_asm); (case hf => exact rfl); (case hke => exact rfl); (case hd => (simp only [depth_under_make, depth_under_kw, depth_in1, depth_deeper, depth_caller, aa_depth]; omega)); (case hu => (simp only [units_in1, units_deeper, Around.mark_units, units_caller, aa_units]; omega))))
local macro_rules | `(tactic| walk_at "bb fq") => `(tactic| (exact ⟨_, _, _, _, _, _, _, by k_inst⟩))
local macro_rules | `(tactic| walk_at "bb enter") => `(tactic| (refine wpAny_call ?_; k_dflt (refine' code_pure ?B ?F ?X ?T rfl ?hf ?hke ?k6 ?k7 ?k8 ?k9 ?kB ?_ ?c2 ?c3 ?c4 ?c5; (case F => k_asm); (case X => k_asm); (case T => k_asm); (case B => k_asm); (case hf => k_asm); (case hke => k_asm); (case k6 => k_is); (case k7 => k_is); (case k8 => k_room); (case k9 => first | exact BindsTo.of_eq rfl | exact binds_K (by k_in) rfl (by k_is) rfl rfl rfl); (case c5 => decide); (case kB => exact locs rfl); (case c2 => exact rfl); (case c3 => exact rfl); (case c4 => exact rfl); k_whole); intro L' h₁ F' N' B' X' T'; (try dsimp only); (try k_fold)))
local macro_rules | `(tactic| walk_at "binaryOp Mult int ref") => `(tactic| (k_here; k_dflt (refine' int_mul_fq ?F ?X ?I ?hc ?hs ?hr ?hf ?hsub ?_; (case F => k_asm); (case X => k_asm); (case I => k_inst); (case hc => k_is); (case hs => k_is); (case hr => k_is); (case hf => k_is); (case hsub => k_is); k_whole)))
local macro_rules | `(tactic| walk_at "binaryOp Div ref ref") => `(tactic| (k_here; k_dflt (refine' binop_K ?k1 ?k2 ?k3 ?k4 ?k5 ?k6 ?k7 ?_; (case k1 => k_asm); (case k2 => k_asm); (case k3 => k_inst); (case k4 => k_typeOf); (case k5 => k_is); (case k6 => k_is); (case k7 => k_is); k_whole)))
set_option maxHeartbeats 4000000 in
theorem made_c {prog : Program} {w : World} {dp un : Nat} {gd : Option (List Code)} {A₀ : Around} {base h₀ : Heap} {outer : List Env} {env : Env} {L : Addr} {m : Str → Option Value} {news : List (Addr × Obj)} {s : Shared} {p : Program} {loose : List Str} {mean : ExcName → Option Value} {mg mb : Str → Option Value}
    {Q E : Value → Shared → Prop} {x : Addr} {q n k : Int} {tk : Tok}
    (C : Cx w dp un A₀ base h₀ outer env L m news s p loose mean mg mb 5) (I : IsFQ s.heap x q n) (hq : 0 < q ∧ q ≤ 19)
    (hret : ∀ y dy h1 h2 t1 t2 tp tn v h' tk', v = k % q → Rng q v → Fr h₀ L h' m → News h₀ L h' ((y, instObj 257 dy) :: (dy, fqD h1 h2 t1 t2 q tp v tn) :: news) → Q (.ref y) { s with heap := h', toks := tk' }) :
    wpAny (model prog w) (AA dp un gd env outer) (call (.ref 240) [.ref x, .int k tk]) Q E s := by
  obtain ⟨B, F, X, N, T, hf, hke, hd, hu⟩ := C
  obtain ⟨dx, h1, h2, t1, t2, tp, tn, I⟩ := I
  walk_at "bb enter"
  k_steps
  (rename Heap.StaysIn _ _ => st)
  (rename Fr h₀ _ _ _ => kF)
  (rename News h₀ _ _ _ => kN)
  exact hret _ _ _ _ _ _ _ _ (k.fmod q) _ _ (fmod_is hq) (rng_fmod hq) kF (news_join N st kN)
end Bb
namespace Bb
local macro_rules | `(tactic| k_room) => `(tactic| ((try simp only [depth_under_make, depth_under_kw, depth_in1, depth_deeper, depth_caller]); (show _ < 1000); omega))
local macro_rules | `(tactic| k_units) => `(tactic| ((try simp only [units_in1, units_deeper, Around.mark_units, units_caller, aa_units]); (show _ < 9900); omega))
local macro_rules | `(tactic| k_inst) => `(tactic| exact inst_keeps (Fr.keep (by assumption)) (by assumption))
local macro_rules | `(tactic| k_inst) => `(tactic| exact inst_keeps (stays_out (by assumption)) (by assumption))
local macro_rules | `(tactic| walk_at "bb cx") => `(tactic| (refine' ⟨?B, ?F, ?X, ?N, ?T, ?hf, ?hke, ?hd, ?hu⟩; (case F => k_asm); (case N => k_asm); (case X => k_asm); (case T => k_asm); (case B => k_asm); (case hf => exact rfl); (case hke => exact rfl); (case hd => (simp only [depth_under_make, depth_under_kw, depth_in1, depth_deeper, depth_caller, aa_depth]; omega)); (case hu => (simp only [units_in1, units_deeper, Around.mark_units, units_caller, aa_units]; omega))))
local macro_rules | `(tactic| walk_at "bb fq") => `(tactic| (exact ⟨_, _, _, _, _, _, _, by k_inst⟩))
local macro_rules | `(tactic| walk_at "bb enter") => `(tactic| (refine wpAny_call ?_; k_dflt (refine' code_pure ?B ?F ?X ?T rfl ?hf ?hke ?k6 ?k7 ?k8 ?k9 ?kB ?_ ?c2 ?c3 ?c4 ?c5; (case F => k_asm); (case X => k_asm); (case T => k_asm); (case B => k_asm); (case hf => k_asm); (case hke => k_asm); (case k6 => k_is); (case k7 => k_is); (case k8 => k_room); (case k9 => first | exact BindsTo.of_eq rfl | exact binds_K (by k_in) rfl (by k_is) rfl rfl rfl); (case c5 => decide); (case kB => exact locs rfl); (case c2 => exact rfl); (case c3 => exact rfl); (case c4 => exact rfl); k_whole); intro L' h₁ F' N' B' X' T'; (try dsimp only); (try k_fold)))
local macro_rules | `(tactic| walk_at "binaryOp Mult int ref") => `(tactic| (k_here; k_dflt (refine' int_mul_fq ?F ?X ?I ?hc ?hs ?hr ?hf ?hsub ?_; (case F => k_asm); (case X => k_asm); (case I => k_inst); (case hc => k_is); (case hs => k_is); (case hr => k_is); (case hf => k_is); (case hsub => k_is); k_whole)))
local macro_rules | `(tactic| walk_at "binaryOp Div ref ref") => `(tactic| (k_here; k_dflt (refine' binop_K ?k1 ?k2 ?k3 ?k4 ?k5 ?k6 ?k7 ?_; (case k1 => k_asm); (case k2 => k_asm); (case k3 => k_inst); (case k4 => k_typeOf); (case k5 => k_is); (case k6 => k_is); (case k7 => k_is); k_whole)))
local macro_rules | `(tactic| walk_at "call ref") => `(tactic| (k_here; (with_reducible show wpAny _ _ (call (Value.ref 240) [Value.ref _, Value.int _ _]) _ _ _); k_dflt (refine' made_c ?C ?I ?hq ?_; (case C => walk_at "bb cx"); (case I => walk_at "bb fq"); (case hq => k_asm); k_whole); intro y' dy' h1' h2' t1' t2' tp' tn' v' h' tk' hv' hr' F' N'; (try dsimp only [PySem.W.CmpBack]); (try k_sweep)))
set_option maxHeartbeats 4000000 in
theorem one_c {prog : Program} {w : World} {dp un : Nat} {gd : Option (List Code)} {A₀ : Around} {base h₀ : Heap} {outer : List Env} {env : Env} {L : Addr} {m : Str → Option Value} {news : List (Addr × Obj)} {s : Shared} {p : Program} {loose : List Str} {mean : ExcName → Option Value} {mg mb : Str → Option Value}
    {Q E : Value → Shared → Prop} {x : Addr} {q a : Int}
    (C : Cx w dp un A₀ base h₀ outer env L m news s p loose mean mg mb 7) (I0 : IsFQ s.heap x q a) (hq : 0 < q ∧ q ≤ 19)
    (hret : ∀ y dy h1 h2 t1 t2 tp tn v h' tk', v = 1 % q → Rng q v → Fr h₀ L h' m → News h₀ L h' ((y, instObj 257 dy) :: (dy, fqD h1 h2 t1 t2 q tp v tn) :: news) → Q (.ref y) { s with heap := h', toks := tk' }) :
    wpAny (model prog w) (AA dp un gd env outer) (call (.ref 247) [.ref x]) Q E s := by
  obtain ⟨B, F, X, N, T, hf, hke, hd, hu⟩ := C
  obtain ⟨dx0, hx0, hy0, tx0, ty0, tz0, tw0, I0⟩ := I0
  walk_at "bb enter"
  k_steps
  (rename Heap.StaysIn _ _ => st)
  (rename Fr h₀ _ _ _ => kF)
  (rename News h₀ _ _ _ => kN)
  exact hret _ _ _ _ _ _ _ _ _ _ _ (by first | assumption | exact fmod_mod hq (by assumption)) (by assumption) kF (news_join N st kN)
local macro_rules | `(tactic| walk_at "call ref") => `(tactic| (k_here; (first | (with_reducible show wpAny _ _ (call (Value.ref 247) [Value.ref _]) _ _ _) | (with_reducible show wpAny _ _ (call (Value.ref 247) ([Value.ref _] ++ [])) _ _ _)); k_dflt (refine' one_c ?C ?I ?hq ?_; (case C => walk_at "bb cx"); (case I => walk_at "bb fq"); (case hq => k_asm); k_whole); intro y' dy' h1' h2' t1' t2' tp' tn' v' h' tk' hv' hr' F' N'; (try dsimp only [PySem.W.CmpBack]); (try k_sweep)))
set_option maxHeartbeats 4000000 in
theorem zero_c {prog : Program} {w : World} {dp un : Nat} {gd : Option (List Code)} {A₀ : Around} {base h₀ : Heap} {outer : List Env} {env : Env} {L : Addr} {m : Str → Option Value} {news : List (Addr × Obj)} {s : Shared} {p : Program} {loose : List Str} {mean : ExcName → Option Value} {mg mb : Str → Option Value}
    {Q E : Value → Shared → Prop} {x : Addr} {q a : Int}
    (C : Cx w dp un A₀ base h₀ outer env L m news s p loose mean mg mb 7) (I0 : IsFQ s.heap x q a) (hq : 0 < q ∧ q ≤ 19)
    (hret : ∀ y dy h1 h2 t1 t2 tp tn v h' tk', v = 0 % q → Rng q v → Fr h₀ L h' m → News h₀ L h' ((y, instObj 257 dy) :: (dy, fqD h1 h2 t1 t2 q tp v tn) :: news) → Q (.ref y) { s with heap := h', toks := tk' }) :
    wpAny (model prog w) (AA dp un gd env outer) (call (.ref 254) [.ref x]) Q E s := by
  obtain ⟨B, F, X, N, T, hf, hke, hd, hu⟩ := C
  obtain ⟨dx0, hx0, hy0, tx0, ty0, tz0, tw0, I0⟩ := I0
  walk_at "bb enter"
  k_steps
  (rename Heap.StaysIn _ _ => st)
  (rename Fr h₀ _ _ _ => kF)
  (rename News h₀ _ _ _ => kN)
  exact hret _ _ _ _ _ _ _ _ _ _ _ (by first | assumption | exact fmod_mod hq (by assumption)) (by assumption) kF (news_join N st kN)
local macro_rules | `(tactic| walk_at "call ref") => `(tactic| (k_here; (first | (with_reducible show wpAny _ _ (call (Value.ref 254) [Value.ref _]) _ _ _) | (with_reducible show wpAny _ _ (call (Value.ref 254) ([Value.ref _] ++ [])) _ _ _)); k_dflt (refine' zero_c ?C ?I ?hq ?_; (case C => walk_at "bb cx"); (case I => walk_at "bb fq"); (case hq => k_asm); k_whole); intro y' dy' h1' h2' t1' t2' tp' tn' v' h' tk' hv' hr' F' N'; (try dsimp only [PySem.W.CmpBack]); (try k_sweep)))
set_option maxHeartbeats 4000000 in
theorem neg_c {prog : Program} {w : World} {dp un : Nat} {gd : Option (List Code)} {A₀ : Around} {base h₀ : Heap} {outer : List Env} {env : Env} {L : Addr} {m : Str → Option Value} {news : List (Addr × Obj)} {s : Shared} {p : Program} {loose : List Str} {mean : ExcName → Option Value} {mg mb : Str → Option Value}
    {Q E : Value → Shared → Prop} {x : Addr} {q a : Int}
    (C : Cx w dp un A₀ base h₀ outer env L m news s p loose mean mg mb 7) (I0 : IsFQ s.heap x q a) (hq : 0 < q ∧ q ≤ 19)
    (hret : ∀ y dy h1 h2 t1 t2 tp tn v h' tk', v = (-a) % q → Rng q v → Fr h₀ L h' m → News h₀ L h' ((y, instObj 257 dy) :: (dy, fqD h1 h2 t1 t2 q tp v tn) :: news) → Q (.ref y) { s with heap := h', toks := tk' }) :
    wpAny (model prog w) (AA dp un gd env outer) (call (.ref 204) [.ref x]) Q E s := by
  obtain ⟨B, F, X, N, T, hf, hke, hd, hu⟩ := C
  obtain ⟨dx0, hx0, hy0, tx0, ty0, tz0, tw0, I0⟩ := I0
  walk_at "bb enter"
  k_steps
  (rename Heap.StaysIn _ _ => st)
  (rename Fr h₀ _ _ _ => kF)
  (rename News h₀ _ _ _ => kN)
  exact hret _ _ _ _ _ _ _ _ _ _ _ (by first | assumption | exact fmod_mod hq (by assumption)) (by assumption) kF (news_join N st kN)
local macro_rules | `(tactic| walk_at "call ref") => `(tactic| (k_here; (first | (with_reducible show wpAny _ _ (call (Value.ref 204) [Value.ref _]) _ _ _) | (with_reducible show wpAny _ _ (call (Value.ref 204) ([Value.ref _] ++ [])) _ _ _)); k_dflt (refine' neg_c ?C ?I ?hq ?_; (case C => walk_at "bb cx"); (case I => walk_at "bb fq"); (case hq => k_asm); k_whole); intro y' dy' h1' h2' t1' t2' tp' tn' v' h' tk' hv' hr' F' N'; (try dsimp only [PySem.W.CmpBack]); (try k_sweep)))
set_option maxHeartbeats 4000000 in
theorem sub_c {prog : Program} {w : World} {dp un : Nat} {gd : Option (List Code)} {A₀ : Around} {base h₀ : Heap} {outer : List Env} {env : Env} {L : Addr} {m : Str → Option Value} {news : List (Addr × Obj)} {s : Shared} {p : Program} {loose : List Str} {mean : ExcName → Option Value} {mg mb : Str → Option Value}
    {Q E : Value → Shared → Prop} {x y : Addr} {q a b : Int}
    (C : Cx w dp un A₀ base h₀ outer env L m news s p loose mean mg mb 7) (I0 : IsFQ s.heap x q a) (I1 : IsFQ s.heap y q b) (hq : 0 < q ∧ q ≤ 19)
    (hret : ∀ y dy h1 h2 t1 t2 tp tn v h' tk', v = (a - b) % q → Rng q v → Fr h₀ L h' m → News h₀ L h' ((y, instObj 257 dy) :: (dy, fqD h1 h2 t1 t2 q tp v tn) :: news) → Q (.ref y) { s with heap := h', toks := tk' }) :
    wpAny (model prog w) (AA dp un gd env outer) (call (.ref 155) [.ref x, .ref y]) Q E s := by
  obtain ⟨B, F, X, N, T, hf, hke, hd, hu⟩ := C
  obtain ⟨dx0, hx0, hy0, tx0, ty0, tz0, tw0, I0⟩ := I0
  obtain ⟨dx1, hx1, hy1, tx1, ty1, tz1, tw1, I1⟩ := I1
  walk_at "bb enter"
  k_steps
  (rename Heap.StaysIn _ _ => st)
  (rename Fr h₀ _ _ _ => kF)
  (rename News h₀ _ _ _ => kN)
  exact hret _ _ _ _ _ _ _ _ _ _ _ (by first | assumption | exact fmod_mod hq (by assumption)) (by assumption) kF (news_join N st kN)
local macro_rules | `(tactic| walk_at "call ref") => `(tactic| (k_here; (with_reducible show wpAny _ _ (call (Value.ref 155) [Value.ref _, Value.ref _]) _ _ _); k_dflt (refine' sub_c ?C ?I ?J ?hq ?_; (case C => walk_at "bb cx"); (case I => walk_at "bb fq"); (case J => walk_at "bb fq"); (case hq => k_asm); k_whole); intro y' dy' h1' h2' t1' t2' tp' tn' v' h' tk' hv' hr' F' N'; (try dsimp only [PySem.W.CmpBack]); (try k_sweep)))
set_option maxHeartbeats 4000000 in
theorem mul_c {prog : Program} {w : World} {dp un : Nat} {gd : Option (List Code)} {A₀ : Around} {base h₀ : Heap} {outer : List Env} {env : Env} {L : Addr} {m : Str → Option Value} {news : List (Addr × Obj)} {s : Shared} {p : Program} {loose : List Str} {mean : ExcName → Option Value} {mg mb : Str → Option Value}
    {Q E : Value → Shared → Prop} {x y : Addr} {q a b : Int}
    (C : Cx w dp un A₀ base h₀ outer env L m news s p loose mean mg mb 7) (I0 : IsFQ s.heap x q a) (I1 : IsFQ s.heap y q b) (ha : Rng q a) (hq : 0 < q ∧ q ≤ 19)
    (hret : ∀ y dy h1 h2 t1 t2 tp tn v h' tk', v = a * b % q → Rng q v → Fr h₀ L h' m → News h₀ L h' ((y, instObj 257 dy) :: (dy, fqD h1 h2 t1 t2 q tp v tn) :: news) → Q (.ref y) { s with heap := h', toks := tk' }) :
    wpAny (model prog w) (AA dp un gd env outer) (call (.ref 127) [.ref x, .ref y]) Q E s := by
  obtain ⟨B, F, X, N, T, hf, hke, hd, hu⟩ := C
  obtain ⟨dx0, hx0, hy0, tx0, ty0, tz0, tw0, I0⟩ := I0
  obtain ⟨dx1, hx1, hy1, tx1, ty1, tz1, tw1, I1⟩ := I1
  have ha' : 0 ≤ a ∧ a < q := ha
  walk_at "bb enter"
  k_steps
  (rename Heap.StaysIn _ _ => st)
  (rename Fr h₀ _ _ _ => kF)
  (rename News h₀ _ _ _ => kN)
  exact hret _ _ _ _ _ _ _ _ _ _ _ (by first | assumption | exact fmod_mod hq (by assumption)) (by assumption) kF (news_join N st kN)
local macro_rules | `(tactic| walk_at "call ref") => `(tactic| (k_here; (with_reducible show wpAny _ _ (call (Value.ref 127) [Value.ref _, Value.ref _]) _ _ _); k_dflt (refine' mul_c ?C ?I ?J ?ha ?hq ?_; (case C => walk_at "bb cx"); (case I => walk_at "bb fq"); (case J => walk_at "bb fq"); (case ha => k_asm); (case hq => k_asm); k_whole); intro y' dy' h1' h2' t1' t2' tp' tn' v' h' tk' hv' hr' F' N'; (try dsimp only [PySem.W.CmpBack]); (try k_sweep)))
set_option maxHeartbeats 4000000 in
theorem muli_c {prog : Program} {w : World} {dp un : Nat} {gd : Option (List Code)} {A₀ : Around} {base h₀ : Heap} {outer : List Env} {env : Env} {L : Addr} {m : Str → Option Value} {news : List (Addr × Obj)} {s : Shared} {p : Program} {loose : List Str} {mean : ExcName → Option Value} {mg mb : Str → Option Value}
    {Q E : Value → Shared → Prop} {x : Addr} {q a k : Int} {tk : Tok}
    (C : Cx w dp un A₀ base h₀ outer env L m news s p loose mean mg mb 7) (I0 : IsFQ s.heap x q a) (ha : Rng q a) (hq : 0 < q ∧ q ≤ 19)
    (hret : ∀ y dy h1 h2 t1 t2 tp tn v h' tk', v = a * k % q → Rng q v → Fr h₀ L h' m → News h₀ L h' ((y, instObj 257 dy) :: (dy, fqD h1 h2 t1 t2 q tp v tn) :: news) → Q (.ref y) { s with heap := h', toks := tk' }) :
    wpAny (model prog w) (AA dp un gd env outer) (call (.ref 127) [.ref x, .int k tk]) Q E s := by
  obtain ⟨B, F, X, N, T, hf, hke, hd, hu⟩ := C
  obtain ⟨dx0, hx0, hy0, tx0, ty0, tz0, tw0, I0⟩ := I0
  have ha' : 0 ≤ a ∧ a < q := ha
  walk_at "bb enter"
  k_steps
  (rename Heap.StaysIn _ _ => st)
  (rename Fr h₀ _ _ _ => kF)
  (rename News h₀ _ _ _ => kN)
  exact hret _ _ _ _ _ _ _ _ _ _ _ (by first | assumption | exact fmod_mod hq (by assumption)) (by assumption) kF (news_join N st kN)
local macro_rules | `(tactic| walk_at "call ref") => `(tactic| (k_here; (with_reducible show wpAny _ _ (call (Value.ref 127) [Value.ref _, Value.int _ _]) _ _ _); k_dflt (refine' muli_c ?C ?I ?ha ?hq ?_; (case C => walk_at "bb cx"); (case I => walk_at "bb fq"); (case ha => k_asm); (case hq => k_asm); k_whole); intro y' dy' h1' h2' t1' t2' tp' tn' v' h' tk' hv' hr' F' N'; (try dsimp only [PySem.W.CmpBack]); (try k_sweep)))
set_option maxHeartbeats 4000000 in
theorem rmuli_c {prog : Program} {w : World} {dp un : Nat} {gd : Option (List Code)} {A₀ : Around} {base h₀ : Heap} {outer : List Env} {env : Env} {L : Addr} {m : Str → Option Value} {news : List (Addr × Obj)} {s : Shared} {p : Program} {loose : List Str} {mean : ExcName → Option Value} {mg mb : Str → Option Value}
    {Q E : Value → Shared → Prop} {x : Addr} {q a k : Int} {tk : Tok}
    (C : Cx w dp un A₀ base h₀ outer env L m news s p loose mean mg mb 11) (I0 : IsFQ s.heap x q a) (ha : Rng q a) (hq : 0 < q ∧ q ≤ 19)
    (hret : ∀ y dy h1 h2 t1 t2 tp tn v h' tk', v = a * k % q → Rng q v → Fr h₀ L h' m → News h₀ L h' ((y, instObj 257 dy) :: (dy, fqD h1 h2 t1 t2 q tp v tn) :: news) → Q (.ref y) { s with heap := h', toks := tk' }) :
    wpAny (model prog w) (AA dp un gd env outer) (call (.ref 134) [.ref x, .int k tk]) Q E s := by
  obtain ⟨B, F, X, N, T, hf, hke, hd, hu⟩ := C
  obtain ⟨dx0, hx0, hy0, tx0, ty0, tz0, tw0, I0⟩ := I0
  walk_at "bb enter"
  k_steps
  (rename Heap.StaysIn _ _ => st)
  (rename Fr h₀ _ _ _ => kF)
  (rename News h₀ _ _ _ => kN)
  exact hret _ _ _ _ _ _ _ _ _ _ _ (by first | assumption | exact fmod_mod hq (by assumption)) (by assumption) kF (news_join N st kN)
local macro_rules | `(tactic| walk_at "call ref") => `(tactic| (k_here; (with_reducible show wpAny _ _ (call (Value.ref 134) [Value.ref _, Value.int _ _]) _ _ _); k_dflt (refine' rmuli_c ?C ?I ?ha ?hq ?_; (case C => walk_at "bb cx"); (case I => walk_at "bb fq"); (case ha => k_asm); (case hq => k_asm); k_whole); intro y' dy' h1' h2' t1' t2' tp' tn' v' h' tk' hv' hr' F' N'; (try dsimp only [PySem.W.CmpBack]); (try k_sweep)))
end Bb
namespace Bb
local macro_rules | `(tactic| k_room) => `(tactic| ((try simp only [depth_under_make, depth_under_kw, depth_in1, depth_deeper, depth_caller]); (show _ < 1000); omega))
local macro_rules | `(tactic| k_units) => `(tactic| ((try simp only [units_in1, units_deeper, Around.mark_units, units_caller, aa_units]); (show _ < 9900); omega))
local macro_rules | `(tactic| k_inst) => `(tactic| exact inst_keeps (Fr.keep (by assumption)) (by assumption))
local macro_rules | `(tactic| k_inst) => `(tactic| exact inst_keeps (stays_out (by assumption)) (by assumption))
local macro_rules | `(tactic| walk_at "bb cx") => `(tactic| (refine' ⟨?B, ?F, ?X, ?N, ?T, ?hf, ?hke, ?hd, ?hu⟩; (case F => k_asm); (case N => k_asm); (case X => k_asm); (case T => k_asm); (case B => k_asm); (case hf => exact rfl); (case hke => exact rfl); (case hd => (simp only [depth_under_make, depth_under_kw, depth_in1, depth_deeper, depth_caller, aa_depth]; omega)); (case hu => (simp only [units_in1, units_deeper, Around.mark_units, units_caller, aa_units]; omega))))
local macro_rules | `(tactic| walk_at "bb fq") => `(tactic| (exact ⟨_, _, _, _, _, _, _, by k_inst⟩))
local macro_rules | `(tactic| walk_at "bb enter") => `(tactic| (refine wpAny_call ?_; k_dflt (refine' code_pure ?B ?F ?X ?T rfl ?hf ?hke ?k6 ?k7 ?k8 ?k9 ?kB ?_ ?c2 ?c3 ?c4 ?c5; (case F => k_asm); (case X => k_asm); (case T => k_asm); (case B => k_asm); (case hf => k_asm); (case hke => k_asm); (case k6 => k_is); (case k7 => k_is); (case k8 => k_room); (case k9 => first | exact BindsTo.of_eq rfl | exact binds_K (by k_in) rfl (by k_is) rfl rfl rfl); (case c5 => decide); (case kB => exact locs rfl); (case c2 => exact rfl); (case c3 => exact rfl); (case c4 => exact rfl); k_whole); intro L' h₁ F' N' B' X' T'; (try dsimp only); (try k_fold)))
local macro_rules | `(tactic| walk_at "binaryOp Mult int ref") => `(tactic| (k_here; k_dflt (refine' int_mul_fq ?F ?X ?I ?hc ?hs ?hr ?hf ?hsub ?_; (case F => k_asm); (case X => k_asm); (case I => k_inst); (case hc => k_is); (case hs => k_is); (case hr => k_is); (case hf => k_is); (case hsub => k_is); k_whole)))
local macro_rules | `(tactic| walk_at "binaryOp Div ref ref") => `(tactic| (k_here; k_dflt (refine' binop_K ?k1 ?k2 ?k3 ?k4 ?k5 ?k6 ?k7 ?_; (case k1 => k_asm); (case k2 => k_asm); (case k3 => k_inst); (case k4 => k_typeOf); (case k5 => k_is); (case k6 => k_is); (case k7 => k_is); k_whole)))
theorem pinv_step {k : Nat} {lm low hm high R : Int} (h : loopR k lm low hm high = some R) (h1 : 1 < low) : ∃ k', k' < k ∧ loopR k' (hm - lm * high.fdiv low) (high - low * high.fdiv low) lm low = some R ∧ -100 < lm ∧ lm < 100 ∧ low < 100 := by
  cases k with
  | zero => cases h
  | succ k =>
    unfold loopR at h
    rw [if_pos h1] at h
    by_cases hb : -100 < lm ∧ lm < 100 ∧ low < 100
    · rw [if_pos hb] at h
      exact ⟨k, Nat.lt_succ_self _, h, hb⟩
    · rw [if_neg hb] at h; cases h
theorem pinv_end {k : Nat} {lm low hm high R : Int} (h : loopR k lm low hm high = some R) (h1 : ¬ 1 < low) : lm = R := by
  cases k with
  | zero => cases h
  | succ k =>
    unfold loopR at h
    rw [if_neg h1] at h
    exact Option.some.inj h
theorem pinv_bound {k : Nat} {lm low hm high R : Int} (h : loopR k lm low hm high = some R) : 1 < low → -100 < lm ∧ lm < 100 ∧ low < 100 := fun h1 => by
  obtain ⟨k', _, _, h⟩ := pinv_step h h1
  exact h
local macro_rules | `(tactic| walk_at "exec While Compare cons nil") => `(tactic| (k_here; (rename Fr _ _ _ _ => lF'); (rename News _ _ _ _ => lN'); (rename (_ ≠ _ → loopR _ _ _ _ _ = _) => hl); (k_dflt (refine' whl_st (σ := (Int × Int × Int × Int) × (Tok × Tok × Tok × Tok)) (fun c => [(Str.ofString "lm", .int c.1.1 c.2.1), (Str.ofString "low", .int c.1.2.1 c.2.2.1), (Str.ofString "hm", .int c.1.2.2.1 c.2.2.2.1), (Str.ofString "high", .int c.1.2.2.2 c.2.2.2.2)]) [Str.ofString "r", Str.ofString "nm", Str.ofString "new"] (fun k c => loopR k c.1.1 c.1.2.1 c.1.2.2.1 c.1.2.2.2 = some _) 12 ((_, _, _, _), _, _, _, _) ?hE lF' (kst_newsOf lN' (l' := []) (fun _ h => nomatch h)) ?hk ?hp ?_;   (case hE => first | passes_own | with_unfolding_all passes_own); (case hk => kst_all); (case hp => exact hl (by assumption)); k_whole)); (clear lF' lN' hl); intro k c u h' tk' hP F' N'; obtain ⟨⟨lm, low, hm, high⟩, t1, t2, t3, t4⟩ := c; (dsimp only [kstB] at hP F' N'); (have hb := pinv_bound hP)))
local macro_rules | `(tactic| walk_at "WhlIf") => `(tactic| (refine whlif_dec ?_ ?_ <;> intro _))
local macro_rules | `(tactic| walk_at "WhEnd") => `(tactic| (dsimp only [WhEnd]))
set_option maxHeartbeats 4000000 in
theorem pfi_c {prog : Program} {w : World} {dp un : Nat} {gd : Option (List Code)} {A₀ : Around} {base h₀ : Heap} {outer : List Env} {env : Env} {L : Addr} {m : Str → Option Value} {news : List (Addr × Obj)} {s : Shared} {p : Program} {loose : List Str} {mean : ExcName → Option Value} {mg mb : Str → Option Value}
    {Q E : Value → Shared → Prop} {q a : Int} {ta tq : Tok}
    (C : Cx w dp un A₀ base h₀ outer env L m news s p loose mean mg mb 7) (ha : Rng q a) (hp : q = 7 ∨ q = 19) (hq : 0 < q ∧ q ≤ 19)
    (hret : ∀ v t h' tk', v = inv q a → Rng q v → Fr h₀ L h' m → News h₀ L h' news → Q (.int v t) { s with heap := h', toks := tk' }) :
    wpAny (model prog w) (AA dp un gd env outer) (call (.ref 99) [.int a ta, .int q tq]) Q E s := by
  obtain ⟨B, F, X, N, T, hf, hke, hd, hu⟩ := C
  have ha' : 0 ≤ a ∧ a < q := ha
  walk_at "bb enter"
  have e1 : a.fmod q = a := (fmod_is hq).trans (Int.emod_eq_of_lt ha.1 ha.2)
  obtain ⟨R, hR, hRq⟩ : ∃ R, (a ≠ 0 → loopR 12 1 a 0 q = some R) ∧ R.fmod q = inv q a := by
    by_cases h0 : a = 0
    · exact ⟨0, fun h => absurd h0 h, by rw [h0, inv_zero hp]; exact Int.zero_fmod _⟩
    · obtain ⟨R, h1, h2⟩ := loop_inv hp ha h0
      exact ⟨R, fun _ => h1, h2⟩
  have hl : a.fmod q ≠ 0 → loopR 12 1 ((a.fmod q).fmod q) 0 q = some R := by rw [e1, e1]; exact hR
  k_steps
  · (rename Heap.StaysIn _ _ => st)
    (rename Fr h₀ _ _ _ => kF)
    (rename a.fmod q = 0 => ez)
    exact hret _ _ _ _ (by rw [e1] at ez; rw [ez, inv_zero hp]) ⟨Int.le_refl 0, hq.1⟩ kF (news_join N st News.nil)
  · (rename loopR _ _ _ _ _ = _ => hP)
    (rename 1 < _ => h1)
    refine kend ((_, _, _, _), _, _, _, _) (by assumption) (by assumption) (fun _ h => nomatch h) (by kst_all) ?_ ?_
    · intro z h2 h3
      simp only [List.forall_mem_cons, List.not_mem_nil, false_implies, implies_true, and_true, ne_eq] at h2
      simp only [List.contains_cons, List.contains_nil, Bool.or_false, Bool.or_eq_false_iff, beq_eq_false_iff_ne, ne_eq] at h3
      simp [h2, h3]
    · obtain ⟨k', hk', hl', _⟩ := pinv_step hP h1
      exact ⟨k', hk', hl'⟩
  · (rename loopR _ _ _ _ _ = _ => hP)
    (rename ¬ 1 < _ => h1)
    (rename Heap.StaysIn _ _ => st)
    (rename Fr h₀ _ _ _ => kF)
    have e3 := pinv_end hP h1
    exact hret _ _ _ _ (by rw [e3, hRq]) (rng_fmod hq) kF (news_join N st News.nil)
end Bb
namespace Bb
local macro_rules | `(tactic| k_room) => `(tactic| ((try simp only [depth_under_make, depth_under_kw, depth_in1, depth_deeper, depth_caller]); (show _ < 1000); omega))
local macro_rules | `(tactic| k_units) => `(tactic| ((try simp only [units_in1, units_deeper, Around.mark_units, units_caller, aa_units]); (show _ < 9900); omega))
local macro_rules | `(tactic| k_inst) => `(tactic| exact inst_keeps (Fr.keep (by assumption)) (by assumption))
local macro_rules | `(tactic| k_inst) => `(tactic| exact inst_keeps (stays_out (by assumption)) (by assumption))
local macro_rules | `(tactic| walk_at "bb cx") => `(tactic| (refine' ⟨?B, ?F, ?X, ?N, ?T, ?hf, ?hke, ?hd, ?hu⟩; (case F => k_asm); (case N => k_asm); (case X => k_asm); (case T => k_asm); (case B => k_asm); (case hf => exact rfl); (case hke => exact rfl); (case hd => (simp only [depth_under_make, depth_under_kw, depth_in1, depth_deeper, depth_caller, aa_depth]; omega)); (case hu => (simp only [units_in1, units_deeper, Around.mark_units, units_caller, aa_units]; omega))))
local macro_rules | `(tactic| walk_at "bb fq") => `(tactic| (exact ⟨_, _, _, _, _, _, _, by k_inst⟩))
local macro_rules | `(tactic| walk_at "bb enter") => `(tactic| (refine wpAny_call ?_; k_dflt (refine' code_pure ?B ?F ?X ?T rfl ?hf ?hke ?k6 ?k7 ?k8 ?k9 ?kB ?_ ?c2 ?c3 ?c4 ?c5; (case F => k_asm); (case X => k_asm); (case T => k_asm); (case B => k_asm); (case hf => k_asm); (case hke => k_asm); (case k6 => k_is); (case k7 => k_is); (case k8 => k_room); (case k9 => first | exact BindsTo.of_eq rfl | exact binds_K (by k_in) rfl (by k_is) rfl rfl rfl); (case c5 => decide); (case kB => exact locs rfl); (case c2 => exact rfl); (case c3 => exact rfl); (case c4 => exact rfl); k_whole); intro L' h₁ F' N' B' X' T'; (try dsimp only); (try k_fold)))
local macro_rules | `(tactic| walk_at "binaryOp Mult int ref") => `(tactic| (k_here; k_dflt (refine' int_mul_fq ?F ?X ?I ?hc ?hs ?hr ?hf ?hsub ?_; (case F => k_asm); (case X => k_asm); (case I => k_inst); (case hc => k_is); (case hs => k_is); (case hr => k_is); (case hf => k_is); (case hsub => k_is); k_whole)))
local macro_rules | `(tactic| walk_at "binaryOp Div ref ref") => `(tactic| (k_here; k_dflt (refine' binop_K ?k1 ?k2 ?k3 ?k4 ?k5 ?k6 ?k7 ?_; (case k1 => k_asm); (case k2 => k_asm); (case k3 => k_inst); (case k4 => k_typeOf); (case k5 => k_is); (case k6 => k_is); (case k7 => k_is); k_whole)))
local macro_rules | `(tactic| walk_at "call ref") => `(tactic| (k_here; (with_reducible show wpAny _ _ (call (Value.ref 240) [Value.ref _, Value.int _ _]) _ _ _); k_dflt (refine' made_c ?C ?I ?hq ?_; (case C => walk_at "bb cx"); (case I => walk_at "bb fq"); (case hq => k_asm); k_whole); intro y' dy' h1' h2' t1' t2' tp' tn' v' h' tk' hv' hr' F' N'; (try dsimp only [PySem.W.CmpBack]); (try k_sweep)))
local macro_rules | `(tactic| walk_at "call ref") => `(tactic| (k_here; (first | (with_reducible show wpAny _ _ (call (Value.ref 247) [Value.ref _]) _ _ _) | (with_reducible show wpAny _ _ (call (Value.ref 247) ([Value.ref _] ++ [])) _ _ _)); k_dflt (refine' one_c ?C ?I ?hq ?_; (case C => walk_at "bb cx"); (case I => walk_at "bb fq"); (case hq => k_asm); k_whole); intro y' dy' h1' h2' t1' t2' tp' tn' v' h' tk' hv' hr' F' N'; (try dsimp only [PySem.W.CmpBack]); (try k_sweep)))
local macro_rules | `(tactic| walk_at "call ref") => `(tactic| (k_here; (first | (with_reducible show wpAny _ _ (call (Value.ref 254) [Value.ref _]) _ _ _) | (with_reducible show wpAny _ _ (call (Value.ref 254) ([Value.ref _] ++ [])) _ _ _)); k_dflt (refine' zero_c ?C ?I ?hq ?_; (case C => walk_at "bb cx"); (case I => walk_at "bb fq"); (case hq => k_asm); k_whole); intro y' dy' h1' h2' t1' t2' tp' tn' v' h' tk' hv' hr' F' N'; (try dsimp only [PySem.W.CmpBack]); (try k_sweep)))
local macro_rules | `(tactic| walk_at "call ref") => `(tactic| (k_here; (first | (with_reducible show wpAny _ _ (call (Value.ref 204) [Value.ref _]) _ _ _) | (with_reducible show wpAny _ _ (call (Value.ref 204) ([Value.ref _] ++ [])) _ _ _)); k_dflt (refine' neg_c ?C ?I ?hq ?_; (case C => walk_at "bb cx"); (case I => walk_at "bb fq"); (case hq => k_asm); k_whole); intro y' dy' h1' h2' t1' t2' tp' tn' v' h' tk' hv' hr' F' N'; (try dsimp only [PySem.W.CmpBack]); (try k_sweep)))
local macro_rules | `(tactic| walk_at "call ref") => `(tactic| (k_here; (with_reducible show wpAny _ _ (call (Value.ref 155) [Value.ref _, Value.ref _]) _ _ _); k_dflt (refine' sub_c ?C ?I ?J ?hq ?_; (case C => walk_at "bb cx"); (case I => walk_at "bb fq"); (case J => walk_at "bb fq"); (case hq => k_asm); k_whole); intro y' dy' h1' h2' t1' t2' tp' tn' v' h' tk' hv' hr' F' N'; (try dsimp only [PySem.W.CmpBack]); (try k_sweep)))
local macro_rules | `(tactic| walk_at "call ref") => `(tactic| (k_here; (with_reducible show wpAny _ _ (call (Value.ref 127) [Value.ref _, Value.ref _]) _ _ _); k_dflt (refine' mul_c ?C ?I ?J ?ha ?hq ?_; (case C => walk_at "bb cx"); (case I => walk_at "bb fq"); (case J => walk_at "bb fq"); (case ha => k_asm); (case hq => k_asm); k_whole); intro y' dy' h1' h2' t1' t2' tp' tn' v' h' tk' hv' hr' F' N'; (try dsimp only [PySem.W.CmpBack]); (try k_sweep)))
local macro_rules | `(tactic| walk_at "call ref") => `(tactic| (k_here; (with_reducible show wpAny _ _ (call (Value.ref 127) [Value.ref _, Value.int _ _]) _ _ _); k_dflt (refine' muli_c ?C ?I ?ha ?hq ?_; (case C => walk_at "bb cx"); (case I => walk_at "bb fq"); (case ha => k_asm); (case hq => k_asm); k_whole); intro y' dy' h1' h2' t1' t2' tp' tn' v' h' tk' hv' hr' F' N'; (try dsimp only [PySem.W.CmpBack]); (try k_sweep)))
local macro_rules | `(tactic| walk_at "call ref") => `(tactic| (k_here; (with_reducible show wpAny _ _ (call (Value.ref 134) [Value.ref _, Value.int _ _]) _ _ _); k_dflt (refine' rmuli_c ?C ?I ?ha ?hq ?_; (case C => walk_at "bb cx"); (case I => walk_at "bb fq"); (case ha => k_asm); (case hq => k_asm); k_whole); intro y' dy' h1' h2' t1' t2' tp' tn' v' h' tk' hv' hr' F' N'; (try dsimp only [PySem.W.CmpBack]); (try k_sweep)))
local macro_rules | `(tactic| walk_at "call ref") => `(tactic| (k_here; (with_reducible show wpAny _ _ (call (Value.ref 99) [Value.int _ _, Value.int _ _]) _ _ _); k_dflt (refine' pfi_c ?C ?ha ?hp ?hq ?_; (case C => walk_at "bb cx"); (case ha => k_asm); (case hp => k_asm); (case hq => k_asm); k_whole); intro v' t' h' tk' hv' hr' F' N'; (try dsimp only [PySem.W.CmpBack]); (try k_sweep)))
set_option maxHeartbeats 4000000 in
theorem div_c {prog : Program} {w : World} {dp un : Nat} {gd : Option (List Code)} {A₀ : Around} {base h₀ : Heap} {outer : List Env} {env : Env} {L : Addr} {m : Str → Option Value} {news : List (Addr × Obj)} {s : Shared} {p : Program} {loose : List Str} {mean : ExcName → Option Value} {mg mb : Str → Option Value}
    {Q E : Value → Shared → Prop} {x y : Addr} {q a b : Int}
    (C : Cx w dp un A₀ base h₀ outer env L m news s p loose mean mg mb 13) (I0 : IsFQ s.heap x q a) (I1 : IsFQ s.heap y q b) (ha : Rng q a) (hb : Rng q b) (hp : q = 7 ∨ q = 19) (hq : 0 < q ∧ q ≤ 19)
    (hret : ∀ y dy h1 h2 t1 t2 tp tn v h' tk', v = a * inv q b % q → Rng q v → Fr h₀ L h' m → News h₀ L h' ((y, instObj 257 dy) :: (dy, fqD h1 h2 t1 t2 q tp v tn) :: news) → Q (.ref y) { s with heap := h', toks := tk' }) :
    wpAny (model prog w) (AA dp un gd env outer) (call (.ref 169) [.ref x, .ref y]) Q E s := by
  obtain ⟨B, F, X, N, T, hf, hke, hd, hu⟩ := C
  obtain ⟨dx0, hx0, hy0, tx0, ty0, tz0, tw0, I0⟩ := I0
  obtain ⟨dx1, hx1, hy1, tx1, ty1, tz1, tw1, I1⟩ := I1
  have ha' : 0 ≤ a ∧ a < q := ha
  walk_at "bb enter"
  k_steps
  (rename Heap.StaysIn _ _ => st)
  (rename Fr h₀ _ _ _ => kF)
  (rename News h₀ _ _ _ => kN)
  (rename _ = inv q b => e1)
  exact hret _ _ _ _ _ _ _ _ _ _ _ (by rw [← e1]; exact fmod_mod hq (by assumption)) (by assumption) kF (news_join N st kN)
local macro_rules | `(tactic| walk_at "call ref") => `(tactic| (k_here; (with_reducible show wpAny _ _ (call (Value.ref 169) [Value.ref _, Value.ref _]) _ _ _); k_dflt (refine' div_c ?C ?I ?J ?ha ?hb ?hp ?hq ?_; (case C => walk_at "bb cx"); (case I => walk_at "bb fq"); (case J => walk_at "bb fq"); (case ha => k_asm); (case hb => k_asm); (case hp => k_asm); (case hq => k_asm); k_whole); intro y' dy' h1' h2' t1' t2' tp' tn' v' h' tk' hv' hr' F' N'; (try dsimp only [PySem.W.CmpBack]); (try k_sweep)))
set_option maxHeartbeats 4000000 in
theorem eq_c {prog : Program} {w : World} {dp un : Nat} {gd : Option (List Code)} {A₀ : Around} {base h₀ : Heap} {outer : List Env} {env : Env} {L : Addr} {m : Str → Option Value} {news : List (Addr × Obj)} {s : Shared} {p : Program} {loose : List Str} {mean : ExcName → Option Value} {mg mb : Str → Option Value}
    {Q E : Value → Shared → Prop} {x y : Addr} {q a b : Int}
    (C : Cx w dp un A₀ base h₀ outer env L m news s p loose mean mg mb 3) (I0 : IsFQ s.heap x q a) (I1 : IsFQ s.heap y q b)
    (hret : ∀ h' tk', Fr h₀ L h' m → News h₀ L h' news → Q (.bool (a == b)) { s with heap := h', toks := tk' }) :
    wpAny (model prog w) (AA dp un gd env outer) (call (.ref 190) [.ref x, .ref y]) Q E s := by
  obtain ⟨B, F, X, N, T, hf, hke, hd, hu⟩ := C
  obtain ⟨dx0, hx0, hy0, tx0, ty0, tz0, tw0, I0⟩ := I0
  obtain ⟨dx1, hx1, hy1, tx1, ty1, tz1, tw1, I1⟩ := I1
  walk_at "bb enter"
  k_steps
  (rename Heap.StaysIn _ _ => st)
  (rename Fr h₀ _ _ _ => kF)
  exact hret _ _ kF (news_join N st News.nil)
end Bb
namespace Bb
local macro_rules | `(tactic| k_room) => `(tactic| ((try simp only [depth_under_make, depth_under_kw, depth_in1, depth_deeper, depth_caller]); (show _ < 1000); omega))
local macro_rules | `(tactic| k_units) => `(tactic| ((try simp only [units_in1, units_deeper, Around.mark_units, units_caller, aa_units]); (show _ < 9900); omega))
local macro_rules | `(tactic| k_inst) => `(tactic| exact inst_keeps (Fr.keep (by assumption)) (by assumption))
local macro_rules | `(tactic| k_inst) => `(tactic| exact inst_keeps (stays_out (by assumption)) (by assumption))
local macro_rules | `(tactic| walk_at "bb cx") => `(tactic| (refine' ⟨?B, ?F, ?X, ?N, ?T, ?hf, ?hke, ?hd, ?hu⟩; (case F => k_asm); (case N => k_asm); (case X => k_asm); (case T => k_asm); (case B => k_asm); (case hf => exact rfl); (case hke => exact rfl); (case hd => (simp only [depth_under_make, depth_under_kw, depth_in1, depth_deeper, depth_caller, aa_depth]; omega)); (case hu => (simp only [units_in1, units_deeper, Around.mark_units, units_caller, aa_units]; omega))))
local macro_rules | `(tactic| walk_at "bb fq") => `(tactic| (exact ⟨_, _, _, _, _, _, _, by k_inst⟩))
local macro_rules | `(tactic| walk_at "bb enter") => `(tactic| (refine wpAny_call ?_; k_dflt (refine' code_pure ?B ?F ?X ?T rfl ?hf ?hke ?k6 ?k7 ?k8 ?k9 ?kB ?_ ?c2 ?c3 ?c4 ?c5; (case F => k_asm); (case X => k_asm); (case T => k_asm); (case B => k_asm); (case hf => k_asm); (case hke => k_asm); (case k6 => k_is); (case k7 => k_is); (case k8 => k_room); (case k9 => first | exact BindsTo.of_eq rfl | exact binds_K (by k_in) rfl (by k_is) rfl rfl rfl); (case c5 => decide); (case kB => exact locs rfl); (case c2 => exact rfl); (case c3 => exact rfl); (case c4 => exact rfl); k_whole); intro L' h₁ F' N' B' X' T'; (try dsimp only); (try k_fold)))
local macro_rules | `(tactic| walk_at "binaryOp Mult int ref") => `(tactic| (k_here; k_dflt (refine' int_mul_fq ?F ?X ?I ?hc ?hs ?hr ?hf ?hsub ?_; (case F => k_asm); (case X => k_asm); (case I => k_inst); (case hc => k_is); (case hs => k_is); (case hr => k_is); (case hf => k_is); (case hsub => k_is); k_whole)))
local macro_rules | `(tactic| walk_at "binaryOp Div ref ref") => `(tactic| (k_here; k_dflt (refine' binop_K ?k1 ?k2 ?k3 ?k4 ?k5 ?k6 ?k7 ?_; (case k1 => k_asm); (case k2 => k_asm); (case k3 => k_inst); (case k4 => k_typeOf); (case k5 => k_is); (case k6 => k_is); (case k7 => k_is); k_whole)))
local macro_rules | `(tactic| walk_at "call ref") => `(tactic| (k_here; (with_reducible show wpAny _ _ (call (Value.ref 240) [Value.ref _, Value.int _ _]) _ _ _); k_dflt (refine' made_c ?C ?I ?hq ?_; (case C => walk_at "bb cx"); (case I => walk_at "bb fq"); (case hq => k_asm); k_whole); intro y' dy' h1' h2' t1' t2' tp' tn' v' h' tk' hv' hr' F' N'; (try dsimp only [PySem.W.CmpBack]); (try k_sweep)))
local macro_rules | `(tactic| walk_at "call ref") => `(tactic| (k_here; (first | (with_reducible show wpAny _ _ (call (Value.ref 247) [Value.ref _]) _ _ _) | (with_reducible show wpAny _ _ (call (Value.ref 247) ([Value.ref _] ++ [])) _ _ _)); k_dflt (refine' one_c ?C ?I ?hq ?_; (case C => walk_at "bb cx"); (case I => walk_at "bb fq"); (case hq => k_asm); k_whole); intro y' dy' h1' h2' t1' t2' tp' tn' v' h' tk' hv' hr' F' N'; (try dsimp only [PySem.W.CmpBack]); (try k_sweep)))
local macro_rules | `(tactic| walk_at "call ref") => `(tactic| (k_here; (first | (with_reducible show wpAny _ _ (call (Value.ref 254) [Value.ref _]) _ _ _) | (with_reducible show wpAny _ _ (call (Value.ref 254) ([Value.ref _] ++ [])) _ _ _)); k_dflt (refine' zero_c ?C ?I ?hq ?_; (case C => walk_at "bb cx"); (case I => walk_at "bb fq"); (case hq => k_asm); k_whole); intro y' dy' h1' h2' t1' t2' tp' tn' v' h' tk' hv' hr' F' N'; (try dsimp only [PySem.W.CmpBack]); (try k_sweep)))
local macro_rules | `(tactic| walk_at "call ref") => `(tactic| (k_here; (first | (with_reducible show wpAny _ _ (call (Value.ref 204) [Value.ref _]) _ _ _) | (with_reducible show wpAny _ _ (call (Value.ref 204) ([Value.ref _] ++ [])) _ _ _)); k_dflt (refine' neg_c ?C ?I ?hq ?_; (case C => walk_at "bb cx"); (case I => walk_at "bb fq"); (case hq => k_asm); k_whole); intro y' dy' h1' h2' t1' t2' tp' tn' v' h' tk' hv' hr' F' N'; (try dsimp only [PySem.W.CmpBack]); (try k_sweep)))
local macro_rules | `(tactic| walk_at "call ref") => `(tactic| (k_here; (with_reducible show wpAny _ _ (call (Value.ref 155) [Value.ref _, Value.ref _]) _ _ _); k_dflt (refine' sub_c ?C ?I ?J ?hq ?_; (case C => walk_at "bb cx"); (case I => walk_at "bb fq"); (case J => walk_at "bb fq"); (case hq => k_asm); k_whole); intro y' dy' h1' h2' t1' t2' tp' tn' v' h' tk' hv' hr' F' N'; (try dsimp only [PySem.W.CmpBack]); (try k_sweep)))
local macro_rules | `(tactic| walk_at "call ref") => `(tactic| (k_here; (with_reducible show wpAny _ _ (call (Value.ref 127) [Value.ref _, Value.ref _]) _ _ _); k_dflt (refine' mul_c ?C ?I ?J ?ha ?hq ?_; (case C => walk_at "bb cx"); (case I => walk_at "bb fq"); (case J => walk_at "bb fq"); (case ha => k_asm); (case hq => k_asm); k_whole); intro y' dy' h1' h2' t1' t2' tp' tn' v' h' tk' hv' hr' F' N'; (try dsimp only [PySem.W.CmpBack]); (try k_sweep)))
local macro_rules | `(tactic| walk_at "call ref") => `(tactic| (k_here; (with_reducible show wpAny _ _ (call (Value.ref 127) [Value.ref _, Value.int _ _]) _ _ _); k_dflt (refine' muli_c ?C ?I ?ha ?hq ?_; (case C => walk_at "bb cx"); (case I => walk_at "bb fq"); (case ha => k_asm); (case hq => k_asm); k_whole); intro y' dy' h1' h2' t1' t2' tp' tn' v' h' tk' hv' hr' F' N'; (try dsimp only [PySem.W.CmpBack]); (try k_sweep)))
local macro_rules | `(tactic| walk_at "call ref") => `(tactic| (k_here; (with_reducible show wpAny _ _ (call (Value.ref 134) [Value.ref _, Value.int _ _]) _ _ _); k_dflt (refine' rmuli_c ?C ?I ?ha ?hq ?_; (case C => walk_at "bb cx"); (case I => walk_at "bb fq"); (case ha => k_asm); (case hq => k_asm); k_whole); intro y' dy' h1' h2' t1' t2' tp' tn' v' h' tk' hv' hr' F' N'; (try dsimp only [PySem.W.CmpBack]); (try k_sweep)))
local macro_rules | `(tactic| walk_at "call ref") => `(tactic| (k_here; (with_reducible show wpAny _ _ (call (Value.ref 99) [Value.int _ _, Value.int _ _]) _ _ _); k_dflt (refine' pfi_c ?C ?ha ?hp ?hq ?_; (case C => walk_at "bb cx"); (case ha => k_asm); (case hp => k_asm); (case hq => k_asm); k_whole); intro v' t' h' tk' hv' hr' F' N'; (try dsimp only [PySem.W.CmpBack]); (try k_sweep)))
local macro_rules | `(tactic| walk_at "call ref") => `(tactic| (k_here; (with_reducible show wpAny _ _ (call (Value.ref 169) [Value.ref _, Value.ref _]) _ _ _); k_dflt (refine' div_c ?C ?I ?J ?ha ?hb ?hp ?hq ?_; (case C => walk_at "bb cx"); (case I => walk_at "bb fq"); (case J => walk_at "bb fq"); (case ha => k_asm); (case hb => k_asm); (case hp => k_asm); (case hq => k_asm); k_whole); intro y' dy' h1' h2' t1' t2' tp' tn' v' h' tk' hv' hr' F' N'; (try dsimp only [PySem.W.CmpBack]); (try k_sweep)))
local macro_rules | `(tactic| walk_at "call ref") => `(tactic| (k_here; (with_reducible show wpAny _ _ (call (Value.ref 190) [Value.ref _, Value.ref _]) _ _ _); k_dflt (refine' eq_c ?C ?I ?J ?_; (case C => walk_at "bb cx"); (case I => walk_at "bb fq"); (case J => walk_at "bb fq"); k_whole); intro h' tk' F' N'; (try dsimp only [PySem.W.CmpBack]); (try k_sweep)))
set_option maxHeartbeats 8000000 in
theorem isinf_c {prog : Program} {w : World} {dp un : Nat} {gd : Option (List Code)} {A₀ : Around} {base h₀ : Heap} {outer : List Env} {env : Env} {L : Addr} {m : Str → Option Value} {news : List (Addr × Obj)} {s : Shared} {p : Program} {loose : List Str} {mean : ExcName → Option Value} {mg mb : Str → Option Value}
    {Q E : Value → Shared → Prop} {t : Addr} {q a b c : Int}
    (C : Cx w dp un A₀ base h₀ outer env L m news s p loose mean mg mb 11) (J0 : IsPt s.heap t q a b c) (hc : Rng q c) (hq : 0 < q ∧ q ≤ 19)
    (hret : ∀ h' tk', Fr h₀ L h' m → News h₀ L h' news → Q (.bool (c == 0)) { s with heap := h', toks := tk' }) :
    wpAny (model prog w) (AA dp un gd env outer) (call (.ref 28) [.ref t]) Q E s := by
  obtain ⟨B, F, X, N, T, hf, hke, hd, hu⟩ := C
  obtain ⟨x0, y0, z0, It0, Ix0, Iy0, Iz0⟩ := J0
  obtain ⟨dx0x, hx0x, hy0x, tx0x, ty0x, tz0x, tw0x, Ix0⟩ := Ix0
  obtain ⟨dx0y, hx0y, hy0y, tx0y, ty0y, tz0y, tw0y, Iy0⟩ := Iy0
  obtain ⟨dx0z, hx0z, hy0z, tx0z, ty0z, tz0z, tw0z, Iz0⟩ := Iz0
  have _ := hc
  walk_at "bb enter"
  k_steps
  (rename Heap.StaysIn _ _ => st)
  (rename Fr h₀ _ _ _ => kF)
  (rename _ = 0 % q => e1)
  rw [Int.zero_emod] at e1
  subst e1
  exact hret _ _ kF (news_join N st News.nil)
local macro_rules | `(tactic| walk_at "bb pt") => `(tactic| (first | assumption | exact IsPt.keeps (Fr.keep (by assumption)) (by assumption) | exact IsPt.keeps (stays_out (by assumption)) (by assumption) | (refine' ispt_of ?t (isfq_of ?a) (isfq_of ?b) (isfq_of ?c); (case t => first | exact IsTup.keeps (by assumption) (Fr.keep (by assumption)) | exact IsTup.keeps (by assumption) (stays_out (by assumption)) | (refine' News.isTup ?n ?m; (case n => k_asm); (case m => k_mem))); (case a => k_inst); (case b => k_inst); (case c => k_inst)) | fail "bb pt"))
local macro_rules | `(tactic| walk_at "call ref") => `(tactic| (k_here; (first | (with_reducible show wpAny _ _ (call (Value.ref 28) [Value.ref _]) _ _ _) | (with_reducible show wpAny _ _ (call (Value.ref 28) ([Value.ref _] ++ [])) _ _ _)); k_dflt (refine' isinf_c ?C ?I ?hc ?hq ?_; (case C => walk_at "bb cx"); (case I => walk_at "bb pt"); (case hc => k_asm); (case hq => k_asm); k_whole); intro h' tk' F' N'; (try dsimp only [PySem.W.CmpBack]); (try k_sweep)))
set_option maxHeartbeats 8000000 in
theorem eqp_c {prog : Program} {w : World} {dp un : Nat} {gd : Option (List Code)} {A₀ : Around} {base h₀ : Heap} {outer : List Env} {env : Env} {L : Addr} {m : Str → Option Value} {news : List (Addr × Obj)} {s : Shared} {p : Program} {loose : List Str} {mean : ExcName → Option Value} {mg mb : Str → Option Value}
    {Q E : Value → Shared → Prop} {t t' : Addr} {q a b c a₂ b₂ c₂ : Int}
    (C : Cx w dp un A₀ base h₀ outer env L m news s p loose mean mg mb 12) (J0 : IsPt s.heap t q a b c) (J1 : IsPt s.heap t' q a₂ b₂ c₂) (ha : Rng q a) (hb : Rng q b) (hc : Rng q c) (h2a : Rng q a₂) (h2b : Rng q b₂) (h2c : Rng q c₂) (hq : 0 < q ∧ q ≤ 19)
    (hret : ∀ h' tk', Fr h₀ L h' m → News h₀ L h' news → Q (.bool (a * c₂ % q == a₂ * c % q && b * c₂ % q == b₂ * c % q)) { s with heap := h', toks := tk' }) :
    wpAny (model prog w) (AA dp un gd env outer) (call (.ref 49) [.ref t, .ref t']) Q E s := by
  obtain ⟨B, F, X, N, T, hf, hke, hd, hu⟩ := C
  obtain ⟨x0, y0, z0, It0, Ix0, Iy0, Iz0⟩ := J0
  obtain ⟨dx0x, hx0x, hy0x, tx0x, ty0x, tz0x, tw0x, Ix0⟩ := Ix0
  obtain ⟨dx0y, hx0y, hy0y, tx0y, ty0y, tz0y, tw0y, Iy0⟩ := Iy0
  obtain ⟨dx0z, hx0z, hy0z, tx0z, ty0z, tz0z, tw0z, Iz0⟩ := Iz0
  obtain ⟨x1, y1, z1, It1, Ix1, Iy1, Iz1⟩ := J1
  obtain ⟨dx1x, hx1x, hy1x, tx1x, ty1x, tz1x, tw1x, Ix1⟩ := Ix1
  obtain ⟨dx1y, hx1y, hy1y, tx1y, ty1y, tz1y, tw1y, Iy1⟩ := Iy1
  obtain ⟨dx1z, hx1z, hy1z, tx1z, ty1z, tz1z, tw1z, Iz1⟩ := Iz1
  walk_at "bb enter"
  k_steps
  all_goals (
    (rename Heap.StaysIn _ _ => st)
    (rename Fr h₀ _ _ _ => kF)
    refine q_bool ?_ (hret _ _ kF (news_join N st News.nil))
    subst_vars
    simp [*])
set_option maxHeartbeats 8000000 in
theorem neg2_c {prog : Program} {w : World} {dp un : Nat} {gd : Option (List Code)} {A₀ : Around} {base h₀ : Heap} {outer : List Env} {env : Env} {L : Addr} {m : Str → Option Value} {news : List (Addr × Obj)} {s : Shared} {p : Program} {loose : List Str} {mean : ExcName → Option Value} {mg mb : Str → Option Value}
    {Q E : Value → Shared → Prop} {t : Addr} {q a b c : Int}
    (C : Cx w dp un A₀ base h₀ outer env L m news s p loose mean mg mb 11) (J0 : IsPt s.heap t q a b c) (ha : Rng q a) (hb : Rng q b) (hc : Rng q c) (hq : 0 < q ∧ q ≤ 19)
    (hret : ∀ r a' b' c' h' tk', (a', b', c') = (a, (-b) % q, c) → Rng q a' → Rng q b' → Rng q c' → IsPt h' r q a' b' c' → Fr h₀ L h' m → News h₀ L h' news → Q (.ref r) { s with heap := h', toks := tk' }) :
    wpAny (model prog w) (AA dp un gd env outer) (call (.ref 63) [.ref t]) Q E s := by
  obtain ⟨B, F, X, N, T, hf, hke, hd, hu⟩ := C
  obtain ⟨x0, y0, z0, It0, Ix0, Iy0, Iz0⟩ := J0
  obtain ⟨dx0x, hx0x, hy0x, tx0x, ty0x, tz0x, tw0x, Ix0⟩ := Ix0
  obtain ⟨dx0y, hx0y, hy0y, tx0y, ty0y, tz0y, tw0y, Iy0⟩ := Iy0
  obtain ⟨dx0z, hx0z, hy0z, tx0z, ty0z, tz0z, tw0z, Iz0⟩ := Iz0
  walk_at "bb enter"
  k_steps
  (rename Heap.StaysIn _ _ => st)
  (rename Fr h₀ _ _ _ => kF)
  refine' hret _ _ _ _ _ _ ?e ?r1 ?r2 ?r3 ?ip kF (news_join N st News.nil)
  case ip => walk_at "bb pt"
  case r1 => assumption
  case r2 => assumption
  case r3 => assumption
  case e => subst_vars; rfl
set_option maxHeartbeats 8000000 in
theorem dbl_c {prog : Program} {w : World} {dp un : Nat} {gd : Option (List Code)} {A₀ : Around} {base h₀ : Heap} {outer : List Env} {env : Env} {L : Addr} {m : Str → Option Value} {news : List (Addr × Obj)} {s : Shared} {p : Program} {loose : List Str} {mean : ExcName → Option Value} {mg mb : Str → Option Value}
    {Q E : Value → Shared → Prop} {t : Addr} {q a b c : Int}
    (C : Cx w dp un A₀ base h₀ outer env L m news s p loose mean mg mb 20) (J0 : IsPt s.heap t q a b c) (ha : Rng q a) (hb : Rng q b) (hc : Rng q c) (hq : 0 < q ∧ q ≤ 19)
    (hret : ∀ r a' b' c' h' tk', (a', b', c') = dblF q a b c → Rng q a' → Rng q b' → Rng q c' → IsPt h' r q a' b' c' → Fr h₀ L h' m → News h₀ L h' news → Q (.ref r) { s with heap := h', toks := tk' }) :
    wpAny (model prog w) (AA dp un gd env outer) (call (.ref 35) [.ref t]) Q E s := by
  obtain ⟨B, F, X, N, T, hf, hke, hd, hu⟩ := C
  obtain ⟨x0, y0, z0, It0, Ix0, Iy0, Iz0⟩ := J0
  obtain ⟨dx0x, hx0x, hy0x, tx0x, ty0x, tz0x, tw0x, Ix0⟩ := Ix0
  obtain ⟨dx0y, hx0y, hy0y, tx0y, ty0y, tz0y, tw0y, Iy0⟩ := Iy0
  obtain ⟨dx0z, hx0z, hy0z, tx0z, ty0z, tz0z, tw0z, Iz0⟩ := Iz0
  walk_at "bb enter"
  k_steps
  (rename Heap.StaysIn _ _ => st)
  (rename Fr h₀ _ _ _ => kF)
  refine' hret _ _ _ _ _ _ ?e ?r1 ?r2 ?r3 ?ip kF (news_join N st News.nil)
  case ip => walk_at "bb pt"
  case r1 => assumption
  case r2 => assumption
  case r3 => assumption
  case e => subst_vars; rfl
end Bb
namespace Bb
local macro_rules | `(tactic| k_room) => `(tactic| ((try simp only [depth_under_make, depth_under_kw, depth_in1, depth_deeper, depth_caller]); (show _ < 1000); omega))
local macro_rules | `(tactic| k_units) => `(tactic| ((try simp only [units_in1, units_deeper, Around.mark_units, units_caller, aa_units]); (show _ < 9900); omega))
local macro_rules | `(tactic| k_inst) => `(tactic| exact inst_keeps (Fr.keep (by assumption)) (by assumption))
local macro_rules | `(tactic| k_inst) => `(tactic| exact inst_keeps (stays_out (by assumption)) (by assumption))
local macro_rules | `(tactic| walk_at "bb cx") => `(tactic| (refine' ⟨?B, ?F, ?X, ?N, ?T, ?hf, ?hke, ?hd, ?hu⟩; (case F => k_asm); (case N => k_asm); (case X => k_asm); (case T => k_asm); (case B => k_asm); (case hf => exact rfl); (case hke => exact rfl); (case hd => (simp only [depth_under_make, depth_under_kw, depth_in1, depth_deeper, depth_caller, aa_depth]; omega)); (case hu => (simp only [units_in1, units_deeper, Around.mark_units, units_caller, aa_units]; omega))))
local macro_rules | `(tactic| walk_at "bb fq") => `(tactic| (exact ⟨_, _, _, _, _, _, _, by k_inst⟩))
local macro_rules | `(tactic| walk_at "bb enter") => `(tactic| (refine wpAny_call ?_; k_dflt (refine' code_pure ?B ?F ?X ?T rfl ?hf ?hke ?k6 ?k7 ?k8 ?k9 ?kB ?_ ?c2 ?c3 ?c4 ?c5; (case F => k_asm); (case X => k_asm); (case T => k_asm); (case B => k_asm); (case hf => k_asm); (case hke => k_asm); (case k6 => k_is); (case k7 => k_is); (case k8 => k_room); (case k9 => first | exact BindsTo.of_eq rfl | exact binds_K (by k_in) rfl (by k_is) rfl rfl rfl); (case c5 => decide); (case kB => exact locs rfl); (case c2 => exact rfl); (case c3 => exact rfl); (case c4 => exact rfl); k_whole); intro L' h₁ F' N' B' X' T'; (try dsimp only); (try k_fold)))
local macro_rules | `(tactic| walk_at "binaryOp Mult int ref") => `(tactic| (k_here; k_dflt (refine' int_mul_fq ?F ?X ?I ?hc ?hs ?hr ?hf ?hsub ?_; (case F => k_asm); (case X => k_asm); (case I => k_inst); (case hc => k_is); (case hs => k_is); (case hr => k_is); (case hf => k_is); (case hsub => k_is); k_whole)))
local macro_rules | `(tactic| walk_at "binaryOp Div ref ref") => `(tactic| (k_here; k_dflt (refine' binop_K ?k1 ?k2 ?k3 ?k4 ?k5 ?k6 ?k7 ?_; (case k1 => k_asm); (case k2 => k_asm); (case k3 => k_inst); (case k4 => k_typeOf); (case k5 => k_is); (case k6 => k_is); (case k7 => k_is); k_whole)))
local macro_rules | `(tactic| walk_at "call ref") => `(tactic| (k_here; (with_reducible show wpAny _ _ (call (Value.ref 240) [Value.ref _, Value.int _ _]) _ _ _); k_dflt (refine' made_c ?C ?I ?hq ?_; (case C => walk_at "bb cx"); (case I => walk_at "bb fq"); (case hq => k_asm); k_whole); intro y' dy' h1' h2' t1' t2' tp' tn' v' h' tk' hv' hr' F' N'; (try dsimp only [PySem.W.CmpBack]); (try k_sweep)))
local macro_rules | `(tactic| walk_at "call ref") => `(tactic| (k_here; (first | (with_reducible show wpAny _ _ (call (Value.ref 247) [Value.ref _]) _ _ _) | (with_reducible show wpAny _ _ (call (Value.ref 247) ([Value.ref _] ++ [])) _ _ _)); k_dflt (refine' one_c ?C ?I ?hq ?_; (case C => walk_at "bb cx"); (case I => walk_at "bb fq"); (case hq => k_asm); k_whole); intro y' dy' h1' h2' t1' t2' tp' tn' v' h' tk' hv' hr' F' N'; (try dsimp only [PySem.W.CmpBack]); (try k_sweep)))
local macro_rules | `(tactic| walk_at "call ref") => `(tactic| (k_here; (first | (with_reducible show wpAny _ _ (call (Value.ref 254) [Value.ref _]) _ _ _) | (with_reducible show wpAny _ _ (call (Value.ref 254) ([Value.ref _] ++ [])) _ _ _)); k_dflt (refine' zero_c ?C ?I ?hq ?_; (case C => walk_at "bb cx"); (case I => walk_at "bb fq"); (case hq => k_asm); k_whole); intro y' dy' h1' h2' t1' t2' tp' tn' v' h' tk' hv' hr' F' N'; (try dsimp only [PySem.W.CmpBack]); (try k_sweep)))
local macro_rules | `(tactic| walk_at "call ref") => `(tactic| (k_here; (first | (with_reducible show wpAny _ _ (call (Value.ref 204) [Value.ref _]) _ _ _) | (with_reducible show wpAny _ _ (call (Value.ref 204) ([Value.ref _] ++ [])) _ _ _)); k_dflt (refine' neg_c ?C ?I ?hq ?_; (case C => walk_at "bb cx"); (case I => walk_at "bb fq"); (case hq => k_asm); k_whole); intro y' dy' h1' h2' t1' t2' tp' tn' v' h' tk' hv' hr' F' N'; (try dsimp only [PySem.W.CmpBack]); (try k_sweep)))
local macro_rules | `(tactic| walk_at "call ref") => `(tactic| (k_here; (with_reducible show wpAny _ _ (call (Value.ref 155) [Value.ref _, Value.ref _]) _ _ _); k_dflt (refine' sub_c ?C ?I ?J ?hq ?_; (case C => walk_at "bb cx"); (case I => walk_at "bb fq"); (case J => walk_at "bb fq"); (case hq => k_asm); k_whole); intro y' dy' h1' h2' t1' t2' tp' tn' v' h' tk' hv' hr' F' N'; (try dsimp only [PySem.W.CmpBack]); (try k_sweep)))
local macro_rules | `(tactic| walk_at "call ref") => `(tactic| (k_here; (with_reducible show wpAny _ _ (call (Value.ref 127) [Value.ref _, Value.ref _]) _ _ _); k_dflt (refine' mul_c ?C ?I ?J ?ha ?hq ?_; (case C => walk_at "bb cx"); (case I => walk_at "bb fq"); (case J => walk_at "bb fq"); (case ha => k_asm); (case hq => k_asm); k_whole); intro y' dy' h1' h2' t1' t2' tp' tn' v' h' tk' hv' hr' F' N'; (try dsimp only [PySem.W.CmpBack]); (try k_sweep)))
local macro_rules | `(tactic| walk_at "call ref") => `(tactic| (k_here; (with_reducible show wpAny _ _ (call (Value.ref 127) [Value.ref _, Value.int _ _]) _ _ _); k_dflt (refine' muli_c ?C ?I ?ha ?hq ?_; (case C => walk_at "bb cx"); (case I => walk_at "bb fq"); (case ha => k_asm); (case hq => k_asm); k_whole); intro y' dy' h1' h2' t1' t2' tp' tn' v' h' tk' hv' hr' F' N'; (try dsimp only [PySem.W.CmpBack]); (try k_sweep)))
local macro_rules | `(tactic| walk_at "call ref") => `(tactic| (k_here; (with_reducible show wpAny _ _ (call (Value.ref 134) [Value.ref _, Value.int _ _]) _ _ _); k_dflt (refine' rmuli_c ?C ?I ?ha ?hq ?_; (case C => walk_at "bb cx"); (case I => walk_at "bb fq"); (case ha => k_asm); (case hq => k_asm); k_whole); intro y' dy' h1' h2' t1' t2' tp' tn' v' h' tk' hv' hr' F' N'; (try dsimp only [PySem.W.CmpBack]); (try k_sweep)))
local macro_rules | `(tactic| walk_at "call ref") => `(tactic| (k_here; (with_reducible show wpAny _ _ (call (Value.ref 99) [Value.int _ _, Value.int _ _]) _ _ _); k_dflt (refine' pfi_c ?C ?ha ?hp ?hq ?_; (case C => walk_at "bb cx"); (case ha => k_asm); (case hp => k_asm); (case hq => k_asm); k_whole); intro v' t' h' tk' hv' hr' F' N'; (try dsimp only [PySem.W.CmpBack]); (try k_sweep)))
local macro_rules | `(tactic| walk_at "call ref") => `(tactic| (k_here; (with_reducible show wpAny _ _ (call (Value.ref 169) [Value.ref _, Value.ref _]) _ _ _); k_dflt (refine' div_c ?C ?I ?J ?ha ?hb ?hp ?hq ?_; (case C => walk_at "bb cx"); (case I => walk_at "bb fq"); (case J => walk_at "bb fq"); (case ha => k_asm); (case hb => k_asm); (case hp => k_asm); (case hq => k_asm); k_whole); intro y' dy' h1' h2' t1' t2' tp' tn' v' h' tk' hv' hr' F' N'; (try dsimp only [PySem.W.CmpBack]); (try k_sweep)))
local macro_rules | `(tactic| walk_at "call ref") => `(tactic| (k_here; (with_reducible show wpAny _ _ (call (Value.ref 190) [Value.ref _, Value.ref _]) _ _ _); k_dflt (refine' eq_c ?C ?I ?J ?_; (case C => walk_at "bb cx"); (case I => walk_at "bb fq"); (case J => walk_at "bb fq"); k_whole); intro h' tk' F' N'; (try dsimp only [PySem.W.CmpBack]); (try k_sweep)))
local macro_rules | `(tactic| walk_at "bb pt") => `(tactic| (first | assumption | exact IsPt.keeps (Fr.keep (by assumption)) (by assumption) | exact IsPt.keeps (stays_out (by assumption)) (by assumption) | (refine' ispt_of ?t (isfq_of ?a) (isfq_of ?b) (isfq_of ?c); (case t => first | exact IsTup.keeps (by assumption) (Fr.keep (by assumption)) | exact IsTup.keeps (by assumption) (stays_out (by assumption)) | (refine' News.isTup ?n ?m; (case n => k_asm); (case m => k_mem))); (case a => k_inst); (case b => k_inst); (case c => k_inst)) | fail "bb pt"))
local macro_rules | `(tactic| walk_at "call ref") => `(tactic| (k_here; (first | (with_reducible show wpAny _ _ (call (Value.ref 28) [Value.ref _]) _ _ _) | (with_reducible show wpAny _ _ (call (Value.ref 28) ([Value.ref _] ++ [])) _ _ _)); k_dflt (refine' isinf_c ?C ?I ?hc ?hq ?_; (case C => walk_at "bb cx"); (case I => walk_at "bb pt"); (case hc => k_asm); (case hq => k_asm); k_whole); intro h' tk' F' N'; (try dsimp only [PySem.W.CmpBack]); (try k_sweep)))
local macro_rules | `(tactic| walk_at "call ref") => `(tactic| (k_here; (first | (with_reducible show wpAny _ _ (call (Value.ref 35) [Value.ref _]) _ _ _) | (with_reducible show wpAny _ _ (call (Value.ref 35) ([Value.ref _] ++ [])) _ _ _)); k_dflt (refine' dbl_c ?C ?I ?ha ?hb ?hc ?hq ?_; (case C => walk_at "bb cx"); (case I => walk_at "bb pt"); (case ha => k_asm); (case hb => k_asm); (case hc => k_asm); (case hq => k_asm); k_whole); intro r' a' b' c' h' tk' he ha hb hc hip F' N'; (try dsimp only [PySem.W.CmpBack]); (try k_sweep)))
local macro_rules | `(tactic| walk_at "ite") => `(tactic| ((with_reducible refine split_ieq ?_ ?_) <;> (intro _; try contradiction)))
set_option maxHeartbeats 8000000 in
theorem add_c {prog : Program} {w : World} {dp un : Nat} {gd : Option (List Code)} {A₀ : Around} {base h₀ : Heap} {outer : List Env} {env : Env} {L : Addr} {m : Str → Option Value} {news : List (Addr × Obj)} {s : Shared} {p : Program} {loose : List Str} {mean : ExcName → Option Value} {mg mb : Str → Option Value}
    {Q E : Value → Shared → Prop} {t t' : Addr} {q a b c a₂ b₂ c₂ : Int}
    (C : Cx w dp un A₀ base h₀ outer env L m news s p loose mean mg mb 34) (J0 : IsPt s.heap t q a b c) (J1 : IsPt s.heap t' q a₂ b₂ c₂) (ha : Rng q a) (hb : Rng q b) (hc : Rng q c) (h2a : Rng q a₂) (h2b : Rng q b₂) (h2c : Rng q c₂) (hp : q = 7 ∨ q = 19) (hq : 0 < q ∧ q ≤ 19)
    (hret : ∀ r a' b' c' h' tk', (a', b', c') = addF q a b c a₂ b₂ c₂ → Rng q a' → Rng q b' → Rng q c' → IsPt h' r q a' b' c' → Fr h₀ L h' m → News h₀ L h' news → Q (.ref r) { s with heap := h', toks := tk' }) :
    wpAny (model prog w) (AA dp un gd env outer) (call (.ref 42) [.ref t, .ref t']) Q E s := by
  obtain ⟨B, F, X, N, T, hf, hke, hd, hu⟩ := C
  obtain ⟨x0, y0, z0, It0, Ix0, Iy0, Iz0⟩ := J0
  obtain ⟨dx0x, hx0x, hy0x, tx0x, ty0x, tz0x, tw0x, Ix0⟩ := Ix0
  obtain ⟨dx0y, hx0y, hy0y, tx0y, ty0y, tz0y, tw0y, Iy0⟩ := Iy0
  obtain ⟨dx0z, hx0z, hy0z, tx0z, ty0z, tz0z, tw0z, Iz0⟩ := Iz0
  obtain ⟨x1, y1, z1, It1, Ix1, Iy1, Iz1⟩ := J1
  obtain ⟨dx1x, hx1x, hy1x, tx1x, ty1x, tz1x, tw1x, Ix1⟩ := Ix1
  obtain ⟨dx1y, hx1y, hy1y, tx1y, ty1y, tz1y, tw1y, Iy1⟩ := Iy1
  obtain ⟨dx1z, hx1z, hy1z, tx1z, ty1z, tz1z, tw1z, Iz1⟩ := Iz1
  have J0 : IsPt s.heap t q a b c := ⟨_, _, _, It0, isfq_of Ix0, isfq_of Iy0, isfq_of Iz0⟩
  have J1 : IsPt s.heap t' q a₂ b₂ c₂ := ⟨_, _, _, It1, isfq_of Ix1, isfq_of Iy1, isfq_of Iz1⟩
  have e10 := one_mod hp
  walk_at "bb enter"
  k_steps
  all_goals (
    (rename Heap.StaysIn _ _ => st)
    (rename Fr h₀ _ _ _ => kF)
    (rename _ = 0 % q => e0)
    (rename _ = 1 % q => e1)
    rw [Int.zero_emod] at e0
    rw [e10] at e1
    subst e0
    subst e1
    refine' hret _ _ _ _ _ _ ?e ?r1 ?r2 ?r3 ?ip kF (news_join N st News.nil)
    case ip => walk_at "bb pt"
    case r1 => assumption
    case r2 => assumption
    case r3 => assumption
    case e =>
      clear J0 J1 kF st
      first
        | exact (addF_p1 (by assumption)).symm
        | exact (addF_p2 (by assumption) (by assumption)).symm
        | (subst_vars; exact (addF_inf (by assumption) (by assumption) (by assumption) (by assumption)).symm)
        | (refine Eq.trans (by assumption) ?_; subst_vars; exact (addF_dbl (by assumption) (by assumption) (by assumption) (by assumption)).symm)
        | (subst_vars; exact (addF_gen (by assumption) (by assumption) (by assumption)).symm))
end Bb
namespace Bb
local macro_rules | `(tactic| k_room) => `(tactic| ((try simp only [depth_under_make, depth_under_kw, depth_in1, depth_deeper, depth_caller]); (show _ < 1000); omega))
local macro_rules | `(tactic| k_units) => `(tactic| ((try simp only [units_in1, units_deeper, Around.mark_units, units_caller, aa_units]); (show _ < 9900); omega))
local macro_rules | `(tactic| k_inst) => `(tactic| exact inst_keeps (Fr.keep (by assumption)) (by assumption))
local macro_rules | `(tactic| k_inst) => `(tactic| exact inst_keeps (stays_out (by assumption)) (by assumption))
local macro_rules | `(tactic| walk_at "bb cx") => `(tactic| (refine' ⟨?B, ?F, ?X, ?N, ?T, ?hf, ?hke, ?hd, ?hu⟩; (case F => k_asm); (case N => k_asm); (case X => k_asm); (case T => k_asm); (case B => k_asm); (case hf => exact rfl); (case hke => exact rfl); (case hd => (simp only [depth_under_make, depth_under_kw, depth_in1, depth_deeper, depth_caller, aa_depth]; omega)); (case hu => (simp only [units_in1, units_deeper, Around.mark_units, units_caller, aa_units]; omega))))
local macro_rules | `(tactic| walk_at "bb fq") => `(tactic| (exact ⟨_, _, _, _, _, _, _, by k_inst⟩))
local macro_rules | `(tactic| walk_at "bb enter") => `(tactic| (refine wpAny_call ?_; k_dflt (refine' code_pure ?B ?F ?X ?T rfl ?hf ?hke ?k6 ?k7 ?k8 ?k9 ?kB ?_ ?c2 ?c3 ?c4 ?c5; (case F => k_asm); (case X => k_asm); (case T => k_asm); (case B => k_asm); (case hf => k_asm); (case hke => k_asm); (case k6 => k_is); (case k7 => k_is); (case k8 => k_room); (case k9 => first | exact BindsTo.of_eq rfl | exact binds_K (by k_in) rfl (by k_is) rfl rfl rfl); (case c5 => decide); (case kB => exact locs rfl); (case c2 => exact rfl); (case c3 => exact rfl); (case c4 => exact rfl); k_whole); intro L' h₁ F' N' B' X' T'; (try dsimp only); (try k_fold)))
local macro_rules | `(tactic| walk_at "binaryOp Mult int ref") => `(tactic| (k_here; k_dflt (refine' int_mul_fq ?F ?X ?I ?hc ?hs ?hr ?hf ?hsub ?_; (case F => k_asm); (case X => k_asm); (case I => k_inst); (case hc => k_is); (case hs => k_is); (case hr => k_is); (case hf => k_is); (case hsub => k_is); k_whole)))
local macro_rules | `(tactic| walk_at "binaryOp Div ref ref") => `(tactic| (k_here; k_dflt (refine' binop_K ?k1 ?k2 ?k3 ?k4 ?k5 ?k6 ?k7 ?_; (case k1 => k_asm); (case k2 => k_asm); (case k3 => k_inst); (case k4 => k_typeOf); (case k5 => k_is); (case k6 => k_is); (case k7 => k_is); k_whole)))
local macro_rules | `(tactic| walk_at "call ref") => `(tactic| (k_here; (with_reducible show wpAny _ _ (call (Value.ref 240) [Value.ref _, Value.int _ _]) _ _ _); k_dflt (refine' made_c ?C ?I ?hq ?_; (case C => walk_at "bb cx"); (case I => walk_at "bb fq"); (case hq => k_asm); k_whole); intro y' dy' h1' h2' t1' t2' tp' tn' v' h' tk' hv' hr' F' N'; (try dsimp only [PySem.W.CmpBack]); (try k_sweep)))
local macro_rules | `(tactic| walk_at "call ref") => `(tactic| (k_here; (first | (with_reducible show wpAny _ _ (call (Value.ref 247) [Value.ref _]) _ _ _) | (with_reducible show wpAny _ _ (call (Value.ref 247) ([Value.ref _] ++ [])) _ _ _)); k_dflt (refine' one_c ?C ?I ?hq ?_; (case C => walk_at "bb cx"); (case I => walk_at "bb fq"); (case hq => k_asm); k_whole); intro y' dy' h1' h2' t1' t2' tp' tn' v' h' tk' hv' hr' F' N'; (try dsimp only [PySem.W.CmpBack]); (try k_sweep)))
local macro_rules | `(tactic| walk_at "call ref") => `(tactic| (k_here; (first | (with_reducible show wpAny _ _ (call (Value.ref 254) [Value.ref _]) _ _ _) | (with_reducible show wpAny _ _ (call (Value.ref 254) ([Value.ref _] ++ [])) _ _ _)); k_dflt (refine' zero_c ?C ?I ?hq ?_; (case C => walk_at "bb cx"); (case I => walk_at "bb fq"); (case hq => k_asm); k_whole); intro y' dy' h1' h2' t1' t2' tp' tn' v' h' tk' hv' hr' F' N'; (try dsimp only [PySem.W.CmpBack]); (try k_sweep)))
local macro_rules | `(tactic| walk_at "call ref") => `(tactic| (k_here; (first | (with_reducible show wpAny _ _ (call (Value.ref 204) [Value.ref _]) _ _ _) | (with_reducible show wpAny _ _ (call (Value.ref 204) ([Value.ref _] ++ [])) _ _ _)); k_dflt (refine' neg_c ?C ?I ?hq ?_; (case C => walk_at "bb cx"); (case I => walk_at "bb fq"); (case hq => k_asm); k_whole); intro y' dy' h1' h2' t1' t2' tp' tn' v' h' tk' hv' hr' F' N'; (try dsimp only [PySem.W.CmpBack]); (try k_sweep)))
local macro_rules | `(tactic| walk_at "call ref") => `(tactic| (k_here; (with_reducible show wpAny _ _ (call (Value.ref 155) [Value.ref _, Value.ref _]) _ _ _); k_dflt (refine' sub_c ?C ?I ?J ?hq ?_; (case C => walk_at "bb cx"); (case I => walk_at "bb fq"); (case J => walk_at "bb fq"); (case hq => k_asm); k_whole); intro y' dy' h1' h2' t1' t2' tp' tn' v' h' tk' hv' hr' F' N'; (try dsimp only [PySem.W.CmpBack]); (try k_sweep)))
local macro_rules | `(tactic| walk_at "call ref") => `(tactic| (k_here; (with_reducible show wpAny _ _ (call (Value.ref 127) [Value.ref _, Value.ref _]) _ _ _); k_dflt (refine' mul_c ?C ?I ?J ?ha ?hq ?_; (case C => walk_at "bb cx"); (case I => walk_at "bb fq"); (case J => walk_at "bb fq"); (case ha => k_asm); (case hq => k_asm); k_whole); intro y' dy' h1' h2' t1' t2' tp' tn' v' h' tk' hv' hr' F' N'; (try dsimp only [PySem.W.CmpBack]); (try k_sweep)))
local macro_rules | `(tactic| walk_at "call ref") => `(tactic| (k_here; (with_reducible show wpAny _ _ (call (Value.ref 127) [Value.ref _, Value.int _ _]) _ _ _); k_dflt (refine' muli_c ?C ?I ?ha ?hq ?_; (case C => walk_at "bb cx"); (case I => walk_at "bb fq"); (case ha => k_asm); (case hq => k_asm); k_whole); intro y' dy' h1' h2' t1' t2' tp' tn' v' h' tk' hv' hr' F' N'; (try dsimp only [PySem.W.CmpBack]); (try k_sweep)))
local macro_rules | `(tactic| walk_at "call ref") => `(tactic| (k_here; (with_reducible show wpAny _ _ (call (Value.ref 134) [Value.ref _, Value.int _ _]) _ _ _); k_dflt (refine' rmuli_c ?C ?I ?ha ?hq ?_; (case C => walk_at "bb cx"); (case I => walk_at "bb fq"); (case ha => k_asm); (case hq => k_asm); k_whole); intro y' dy' h1' h2' t1' t2' tp' tn' v' h' tk' hv' hr' F' N'; (try dsimp only [PySem.W.CmpBack]); (try k_sweep)))
local macro_rules | `(tactic| walk_at "call ref") => `(tactic| (k_here; (with_reducible show wpAny _ _ (call (Value.ref 99) [Value.int _ _, Value.int _ _]) _ _ _); k_dflt (refine' pfi_c ?C ?ha ?hp ?hq ?_; (case C => walk_at "bb cx"); (case ha => k_asm); (case hp => k_asm); (case hq => k_asm); k_whole); intro v' t' h' tk' hv' hr' F' N'; (try dsimp only [PySem.W.CmpBack]); (try k_sweep)))
local macro_rules | `(tactic| walk_at "call ref") => `(tactic| (k_here; (with_reducible show wpAny _ _ (call (Value.ref 169) [Value.ref _, Value.ref _]) _ _ _); k_dflt (refine' div_c ?C ?I ?J ?ha ?hb ?hp ?hq ?_; (case C => walk_at "bb cx"); (case I => walk_at "bb fq"); (case J => walk_at "bb fq"); (case ha => k_asm); (case hb => k_asm); (case hp => k_asm); (case hq => k_asm); k_whole); intro y' dy' h1' h2' t1' t2' tp' tn' v' h' tk' hv' hr' F' N'; (try dsimp only [PySem.W.CmpBack]); (try k_sweep)))
local macro_rules | `(tactic| walk_at "call ref") => `(tactic| (k_here; (with_reducible show wpAny _ _ (call (Value.ref 190) [Value.ref _, Value.ref _]) _ _ _); k_dflt (refine' eq_c ?C ?I ?J ?_; (case C => walk_at "bb cx"); (case I => walk_at "bb fq"); (case J => walk_at "bb fq"); k_whole); intro h' tk' F' N'; (try dsimp only [PySem.W.CmpBack]); (try k_sweep)))
local macro_rules | `(tactic| walk_at "bb pt") => `(tactic| (first | assumption | exact IsPt.keeps (Fr.keep (by assumption)) (by assumption) | exact IsPt.keeps (stays_out (by assumption)) (by assumption) | (refine' ispt_of ?t (isfq_of ?a) (isfq_of ?b) (isfq_of ?c); (case t => first | exact IsTup.keeps (by assumption) (Fr.keep (by assumption)) | exact IsTup.keeps (by assumption) (stays_out (by assumption)) | (refine' News.isTup ?n ?m; (case n => k_asm); (case m => k_mem))); (case a => k_inst); (case b => k_inst); (case c => k_inst)) | fail "bb pt"))
local macro_rules | `(tactic| walk_at "call ref") => `(tactic| (k_here; (first | (with_reducible show wpAny _ _ (call (Value.ref 28) [Value.ref _]) _ _ _) | (with_reducible show wpAny _ _ (call (Value.ref 28) ([Value.ref _] ++ [])) _ _ _)); k_dflt (refine' isinf_c ?C ?I ?hc ?hq ?_; (case C => walk_at "bb cx"); (case I => walk_at "bb pt"); (case hc => k_asm); (case hq => k_asm); k_whole); intro h' tk' F' N'; (try dsimp only [PySem.W.CmpBack]); (try k_sweep)))
set_option maxHeartbeats 8000000 in
theorem norm_c {prog : Program} {w : World} {dp un : Nat} {gd : Option (List Code)} {A₀ : Around} {base h₀ : Heap} {outer : List Env} {env : Env} {L : Addr} {m : Str → Option Value} {news : List (Addr × Obj)} {s : Shared} {p : Program} {loose : List Str} {mean : ExcName → Option Value} {mg mb : Str → Option Value}
    {Q E : Value → Shared → Prop} {t : Addr} {q a b c : Int}
    (C : Cx w dp un A₀ base h₀ outer env L m news s p loose mean mg mb 17) (J0 : IsPt s.heap t q a b c) (ha : Rng q a) (hb : Rng q b) (hc : Rng q c) (hp : q = 7 ∨ q = 19) (hq : 0 < q ∧ q ≤ 19)
    (hret : ∀ D x dx h1 h2 t1 t2 tp tn x₂ dx₂ h1₂ h2₂ t1₂ t2₂ tp₂ tn₂ v v₂ h' tk', v = a * inv q c % q → v₂ = b * inv q c % q → Rng q v → Rng q v₂ → Fr h₀ L h' m → News h₀ L h' ((D, { cls := .type "tuple", data := .seq #[.ref x, .ref x₂] }) :: (x₂, instObj 257 dx₂) :: (dx₂, fqD h1₂ h2₂ t1₂ t2₂ q tp₂ v₂ tn₂) :: (x, instObj 257 dx) :: (dx, fqD h1 h2 t1 t2 q tp v tn) :: news) → Q (.ref D) { s with heap := h', toks := tk' }) :
    wpAny (model prog w) (AA dp un gd env outer) (call (.ref 56) [.ref t]) Q E s := by
  obtain ⟨B, F, X, N, T, hf, hke, hd, hu⟩ := C
  obtain ⟨x0, y0, z0, It0, Ix0, Iy0, Iz0⟩ := J0
  obtain ⟨dx0x, hx0x, hy0x, tx0x, ty0x, tz0x, tw0x, Ix0⟩ := Ix0
  obtain ⟨dx0y, hx0y, hy0y, tx0y, ty0y, tz0y, tw0y, Iy0⟩ := Iy0
  obtain ⟨dx0z, hx0z, hy0z, tx0z, ty0z, tz0z, tw0z, Iz0⟩ := Iz0
  walk_at "bb enter"
  k_steps
  (rename Heap.StaysIn _ _ => st)
  (rename Fr h₀ _ _ _ => kF)
  (rename News h₀ _ _ _ => kN)
  exact hret _ _ _ _ _ _ _ _ _ _ _ _ _ _ _ _ _ _ _ _ _ (by assumption) (by assumption) (by assumption) (by assumption) kF (news_join N st kN)
local macro_rules | `(tactic| walk_at "call ref") => `(tactic| (k_here; (first | (with_reducible show wpAny _ _ (call (Value.ref 56) [Value.ref _]) _ _ _) | (with_reducible show wpAny _ _ (call (Value.ref 56) ([Value.ref _] ++ [])) _ _ _)); k_dflt (refine' norm_c ?C ?I ?ha ?hb ?hc ?hp ?hq ?_; (case C => walk_at "bb cx"); (case I => walk_at "bb pt"); (case ha => k_asm); (case hb => k_asm); (case hc => k_asm); (case hp => k_asm); (case hq => k_asm); k_whole); intro D x' dx' h1' h2' t1' t2' tp' tn' y' dy' h1₂' h2₂' t1₂' t2₂' tp₂' tn₂' v₁' v₂' h' tk' hv1 hv2 hr1 hr2 F' N'; (try dsimp only [PySem.W.CmpBack]); (try k_sweep)))
local macro_rules | `(tactic| walk_at "binaryOp Mult int int") => `(tactic| (refine mul_int ?_ (flag_mul (by assumption) (by assumption))))
set_option maxHeartbeats 8000000 in
theorem compress_c {prog : Program} {w : World} {dp un : Nat} {gd : Option (List Code)} {A₀ : Around} {base h₀ : Heap} {outer : List Env} {env : Env} {L : Addr} {m : Str → Option Value} {news : List (Addr × Obj)} {s : Shared} {p : Program} {loose : List Str} {mean : ExcName → Option Value} {mg mb : Str → Option Value}
    {Q E : Value → Shared → Prop} {t y : Addr} {q a b c n : Int}
    (C : Cx w dp un A₀ base h₀ outer env L m news s p loose mean mg mb 34) (J0 : IsPt s.heap t q a b c) (I1 : IsFQ s.heap y q n) (ha : Rng q a) (hb : Rng q b) (hc : Rng q c) (hp : q = 7 ∨ q = 19) (hq : 0 < q ∧ q ≤ 19)
    (hret : ∀ v t h' tk', v = cmpF q a b c → Fr h₀ L h' m → News h₀ L h' news → Q (.int v t) { s with heap := h', toks := tk' }) :
    wpAny (model prog w) (AA dp un gd env outer) (call (.ref 85) [.ref t, .ref y]) Q E s := by
  obtain ⟨B, F, X, N, T, hf, hke, hd, hu⟩ := C
  obtain ⟨x0, y0, z0, It0, Ix0, Iy0, Iz0⟩ := J0
  obtain ⟨dx0x, hx0x, hy0x, tx0x, ty0x, tz0x, tw0x, Ix0⟩ := Ix0
  obtain ⟨dx0y, hx0y, hy0y, tx0y, ty0y, tz0y, tw0y, Iy0⟩ := Iy0
  obtain ⟨dx0z, hx0z, hy0z, tx0z, ty0z, tz0z, tw0z, Iz0⟩ := Iz0
  obtain ⟨dx1, hx1, hy1, tx1, ty1, tz1, tw1, I1⟩ := I1
  have J0 : IsPt s.heap t q a b c := ⟨_, _, _, It0, isfq_of Ix0, isfq_of Iy0, isfq_of Iz0⟩
  walk_at "bb enter"
  k_steps
  all_goals (rename Heap.StaysIn _ _ => st)
  all_goals (rename Fr h₀ _ _ _ => kF)
  · exact hret _ _ _ _ (by unfold cmpF; rw [if_pos (by assumption), p383, p382]) kF (news_join N st News.nil)
  · (rename _ = a * inv q c % q => e1)
    (rename _ = b * inv q c % q => e2)
    exact hret _ _ _ _ (by unfold cmpF; rw [if_neg (by assumption), p383, p381, ← e1, ← e2, fdiv_pos hq]) kF (news_join N st News.nil)
end Bb
namespace Bb
local macro_rules | `(tactic| k_room) => `(tactic| ((try simp only [depth_under_make, depth_under_kw, depth_in1, depth_deeper, depth_caller]); (show _ < 1000); omega))
local macro_rules | `(tactic| k_units) => `(tactic| ((try simp only [units_in1, units_deeper, Around.mark_units, units_caller, aa_units]); (show _ < 9900); omega))
local macro_rules | `(tactic| k_inst) => `(tactic| exact inst_keeps (Fr.keep (by assumption)) (by assumption))
local macro_rules | `(tactic| k_inst) => `(tactic| exact inst_keeps (stays_out (by assumption)) (by assumption))
local macro_rules | `(tactic| walk_at "bb cx") => `(tactic| (refine' ⟨?B, ?F, ?X, ?N, ?T, ?hf, ?hke, ?hd, ?hu⟩; (case F => k_asm); (case N => k_asm); (case X => k_asm); (case T => k_asm); (case B => k_asm); (case hf => exact rfl); (case hke => exact rfl); (case hd => (simp only [depth_under_make, depth_under_kw, depth_in1, depth_deeper, depth_caller, aa_depth]; omega)); (case hu => (simp only [units_in1, units_deeper, Around.mark_units, units_caller, aa_units]; omega))))
local macro_rules | `(tactic| walk_at "bb fq") => `(tactic| (exact ⟨_, _, _, _, _, _, _, by k_inst⟩))
local macro_rules | `(tactic| walk_at "bb enter") => `(tactic| (refine wpAny_call ?_; k_dflt (refine' code_pure ?B ?F ?X ?T rfl ?hf ?hke ?k6 ?k7 ?k8 ?k9 ?kB ?_ ?c2 ?c3 ?c4 ?c5; (case F => k_asm); (case X => k_asm); (case T => k_asm); (case B => k_asm); (case hf => k_asm); (case hke => k_asm); (case k6 => k_is); (case k7 => k_is); (case k8 => k_room); (case k9 => first | exact BindsTo.of_eq rfl | exact binds_K (by k_in) rfl (by k_is) rfl rfl rfl); (case c5 => decide); (case kB => exact locs rfl); (case c2 => exact rfl); (case c3 => exact rfl); (case c4 => exact rfl); k_whole); intro L' h₁ F' N' B' X' T'; (try dsimp only); (try k_fold)))
local macro_rules | `(tactic| walk_at "binaryOp Mult int ref") => `(tactic| (k_here; k_dflt (refine' int_mul_fq ?F ?X ?I ?hc ?hs ?hr ?hf ?hsub ?_; (case F => k_asm); (case X => k_asm); (case I => k_inst); (case hc => k_is); (case hs => k_is); (case hr => k_is); (case hf => k_is); (case hsub => k_is); k_whole)))
local macro_rules | `(tactic| walk_at "binaryOp Div ref ref") => `(tactic| (k_here; k_dflt (refine' binop_K ?k1 ?k2 ?k3 ?k4 ?k5 ?k6 ?k7 ?_; (case k1 => k_asm); (case k2 => k_asm); (case k3 => k_inst); (case k4 => k_typeOf); (case k5 => k_is); (case k6 => k_is); (case k7 => k_is); k_whole)))
set_option maxHeartbeats 8000000 in
theorem flags_c {prog : Program} {w : World} {dp un : Nat} {gd : Option (List Code)} {A₀ : Around} {base h₀ : Heap} {outer : List Env} {env : Env} {L : Addr} {m : Str → Option Value} {news : List (Addr × Obj)} {s : Shared} {p : Program} {loose : List Str} {mean : ExcName → Option Value} {mg mb : Str → Option Value}
    {Q E : Value → Shared → Prop} {z : Int} {tz : Tok}
    (C : Cx w dp un A₀ base h₀ outer env L m news s p loose mean mg mb 11) 
    (hret : ∀ D h' tk', Fr h₀ L h' m → News h₀ L h' ((D, { cls := .type "tuple", data := .seq #[.bool (bitZ z 383), .bool (bitZ z 382), .bool (bitZ z 381)] }) :: news) → Q (.ref D) { s with heap := h', toks := tk' }) :
    wpAny (model prog w) (AA dp un gd env outer) (call (.ref 70) [.int z tz]) Q E s := by
  obtain ⟨B, F, X, N, T, hf, hke, hd, hu⟩ := C
  walk_at "bb enter"
  k_steps
  (rename Heap.StaysIn _ _ => st)
  (rename Fr h₀ _ _ _ => kF)
  (rename News h₀ _ _ _ => kN)
  have e1 : (Builtin.bitAnd (z.fdiv (2 ^ Int.toNat 383)) 1 != 0) = bitZ z 383 := bit_is 383
  have e2 : (Builtin.bitAnd (z.fdiv (2 ^ Int.toNat 382)) 1 != 0) = bitZ z 382 := bit_is 382
  have e3 : (Builtin.bitAnd (z.fdiv (2 ^ Int.toNat 381)) 1 != 0) = bitZ z 381 := bit_is 381
  rw [e1, e2, e3] at kN
  exact hret _ _ _ kF (news_join N st kN)
set_option maxHeartbeats 8000000 in
theorem ipi_c {prog : Program} {w : World} {dp un : Nat} {gd : Option (List Code)} {A₀ : Around} {base h₀ : Heap} {outer : List Env} {env : Env} {L : Addr} {m : Str → Option Value} {news : List (Addr × Obj)} {s : Shared} {p : Program} {loose : List Str} {mean : ExcName → Option Value} {mg mb : Str → Option Value}
    {Q E : Value → Shared → Prop} {z : Int} {tz : Tok}
    (C : Cx w dp un A₀ base h₀ outer env L m news s p loose mean mg mb 11) 
    (hret : ∀ h' tk', Fr h₀ L h' m → News h₀ L h' news → Q (.bool (decide (z % 2 ^ 381 = 0))) { s with heap := h', toks := tk' }) :
    wpAny (model prog w) (AA dp un gd env outer) (call (.ref 78) [.int z tz]) Q E s := by
  obtain ⟨B, F, X, N, T, hf, hke, hd, hu⟩ := C
  walk_at "bb enter"
  k_steps
  all_goals (
    (rename Heap.StaysIn _ _ => st)
    (rename Fr h₀ _ _ _ => kF)
    refine q_bool ?_ (hret _ _ kF (news_join N st News.nil))
    rw [p381, ← fmod_big (by decide)]
    simp [*])
end Bb
namespace Bb
local macro_rules | `(tactic| k_room) => `(tactic| ((try simp only [depth_under_make, depth_under_kw, depth_in1, depth_deeper, depth_caller]); (show _ < 1000); omega))
local macro_rules | `(tactic| k_units) => `(tactic| ((try simp only [units_in1, units_deeper, Around.mark_units, units_caller, aa_units]); (show _ < 9900); omega))
local macro_rules | `(tactic| k_inst) => `(tactic| exact inst_keeps (Fr.keep (by assumption)) (by assumption))
local macro_rules | `(tactic| k_inst) => `(tactic| exact inst_keeps (stays_out (by assumption)) (by assumption))
local macro_rules | `(tactic| walk_at "bb cx") => `(tactic| (refine' ⟨?B, ?F, ?X, ?N, ?T, ?hf, ?hke, ?hd, ?hu⟩; (case F => k_asm); (case N => k_asm); (case X => k_asm); (case T => k_asm); (case B => k_asm); (case hf => exact rfl); (case hke => exact rfl); (case hd => (simp only [depth_under_make, depth_under_kw, depth_in1, depth_deeper, depth_caller, aa_depth]; omega)); (case hu => (simp only [units_in1, units_deeper, Around.mark_units, units_caller, aa_units]; omega))))
local macro_rules | `(tactic| walk_at "bb fq") => `(tactic| (exact ⟨_, _, _, _, _, _, _, by k_inst⟩))
local macro_rules | `(tactic| walk_at "bb enter") => `(tactic| (refine wpAny_call ?_; k_dflt (refine' code_pure ?B ?F ?X ?T rfl ?hf ?hke ?k6 ?k7 ?k8 ?k9 ?kB ?_ ?c2 ?c3 ?c4 ?c5; (case F => k_asm); (case X => k_asm); (case T => k_asm); (case B => k_asm); (case hf => k_asm); (case hke => k_asm); (case k6 => k_is); (case k7 => k_is); (case k8 => k_room); (case k9 => first | exact BindsTo.of_eq rfl | exact binds_K (by k_in) rfl (by k_is) rfl rfl rfl); (case c5 => decide); (case kB => exact locs rfl); (case c2 => exact rfl); (case c3 => exact rfl); (case c4 => exact rfl); k_whole); intro L' h₁ F' N' B' X' T'; (try dsimp only); (try k_fold)))
local macro_rules | `(tactic| walk_at "binaryOp Mult int ref") => `(tactic| (k_here; k_dflt (refine' int_mul_fq ?F ?X ?I ?hc ?hs ?hr ?hf ?hsub ?_; (case F => k_asm); (case X => k_asm); (case I => k_inst); (case hc => k_is); (case hs => k_is); (case hr => k_is); (case hf => k_is); (case hsub => k_is); k_whole)))
local macro_rules | `(tactic| walk_at "binaryOp Div ref ref") => `(tactic| (k_here; k_dflt (refine' binop_K ?k1 ?k2 ?k3 ?k4 ?k5 ?k6 ?k7 ?_; (case k1 => k_asm); (case k2 => k_asm); (case k3 => k_inst); (case k4 => k_typeOf); (case k5 => k_is); (case k6 => k_is); (case k7 => k_is); k_whole)))
local macro_rules | `(tactic| walk_at "call ref") => `(tactic| (k_here; (with_reducible show wpAny _ _ (call (Value.ref 240) [Value.ref _, Value.int _ _]) _ _ _); k_dflt (refine' made_c ?C ?I ?hq ?_; (case C => walk_at "bb cx"); (case I => walk_at "bb fq"); (case hq => k_asm); k_whole); intro y' dy' h1' h2' t1' t2' tp' tn' v' h' tk' hv' hr' F' N'; (try dsimp only [PySem.W.CmpBack]); (try k_sweep)))
local macro_rules | `(tactic| walk_at "call ref") => `(tactic| (k_here; (first | (with_reducible show wpAny _ _ (call (Value.ref 247) [Value.ref _]) _ _ _) | (with_reducible show wpAny _ _ (call (Value.ref 247) ([Value.ref _] ++ [])) _ _ _)); k_dflt (refine' one_c ?C ?I ?hq ?_; (case C => walk_at "bb cx"); (case I => walk_at "bb fq"); (case hq => k_asm); k_whole); intro y' dy' h1' h2' t1' t2' tp' tn' v' h' tk' hv' hr' F' N'; (try dsimp only [PySem.W.CmpBack]); (try k_sweep)))
local macro_rules | `(tactic| walk_at "call ref") => `(tactic| (k_here; (first | (with_reducible show wpAny _ _ (call (Value.ref 254) [Value.ref _]) _ _ _) | (with_reducible show wpAny _ _ (call (Value.ref 254) ([Value.ref _] ++ [])) _ _ _)); k_dflt (refine' zero_c ?C ?I ?hq ?_; (case C => walk_at "bb cx"); (case I => walk_at "bb fq"); (case hq => k_asm); k_whole); intro y' dy' h1' h2' t1' t2' tp' tn' v' h' tk' hv' hr' F' N'; (try dsimp only [PySem.W.CmpBack]); (try k_sweep)))
local macro_rules | `(tactic| walk_at "call ref") => `(tactic| (k_here; (first | (with_reducible show wpAny _ _ (call (Value.ref 204) [Value.ref _]) _ _ _) | (with_reducible show wpAny _ _ (call (Value.ref 204) ([Value.ref _] ++ [])) _ _ _)); k_dflt (refine' neg_c ?C ?I ?hq ?_; (case C => walk_at "bb cx"); (case I => walk_at "bb fq"); (case hq => k_asm); k_whole); intro y' dy' h1' h2' t1' t2' tp' tn' v' h' tk' hv' hr' F' N'; (try dsimp only [PySem.W.CmpBack]); (try k_sweep)))
local macro_rules | `(tactic| walk_at "call ref") => `(tactic| (k_here; (with_reducible show wpAny _ _ (call (Value.ref 155) [Value.ref _, Value.ref _]) _ _ _); k_dflt (refine' sub_c ?C ?I ?J ?hq ?_; (case C => walk_at "bb cx"); (case I => walk_at "bb fq"); (case J => walk_at "bb fq"); (case hq => k_asm); k_whole); intro y' dy' h1' h2' t1' t2' tp' tn' v' h' tk' hv' hr' F' N'; (try dsimp only [PySem.W.CmpBack]); (try k_sweep)))
local macro_rules | `(tactic| walk_at "call ref") => `(tactic| (k_here; (with_reducible show wpAny _ _ (call (Value.ref 127) [Value.ref _, Value.ref _]) _ _ _); k_dflt (refine' mul_c ?C ?I ?J ?ha ?hq ?_; (case C => walk_at "bb cx"); (case I => walk_at "bb fq"); (case J => walk_at "bb fq"); (case ha => k_asm); (case hq => k_asm); k_whole); intro y' dy' h1' h2' t1' t2' tp' tn' v' h' tk' hv' hr' F' N'; (try dsimp only [PySem.W.CmpBack]); (try k_sweep)))
local macro_rules | `(tactic| walk_at "call ref") => `(tactic| (k_here; (with_reducible show wpAny _ _ (call (Value.ref 127) [Value.ref _, Value.int _ _]) _ _ _); k_dflt (refine' muli_c ?C ?I ?ha ?hq ?_; (case C => walk_at "bb cx"); (case I => walk_at "bb fq"); (case ha => k_asm); (case hq => k_asm); k_whole); intro y' dy' h1' h2' t1' t2' tp' tn' v' h' tk' hv' hr' F' N'; (try dsimp only [PySem.W.CmpBack]); (try k_sweep)))
local macro_rules | `(tactic| walk_at "call ref") => `(tactic| (k_here; (with_reducible show wpAny _ _ (call (Value.ref 134) [Value.ref _, Value.int _ _]) _ _ _); k_dflt (refine' rmuli_c ?C ?I ?ha ?hq ?_; (case C => walk_at "bb cx"); (case I => walk_at "bb fq"); (case ha => k_asm); (case hq => k_asm); k_whole); intro y' dy' h1' h2' t1' t2' tp' tn' v' h' tk' hv' hr' F' N'; (try dsimp only [PySem.W.CmpBack]); (try k_sweep)))
local macro_rules | `(tactic| walk_at "call ref") => `(tactic| (k_here; (with_reducible show wpAny _ _ (call (Value.ref 99) [Value.int _ _, Value.int _ _]) _ _ _); k_dflt (refine' pfi_c ?C ?ha ?hp ?hq ?_; (case C => walk_at "bb cx"); (case ha => k_asm); (case hp => k_asm); (case hq => k_asm); k_whole); intro v' t' h' tk' hv' hr' F' N'; (try dsimp only [PySem.W.CmpBack]); (try k_sweep)))
local macro_rules | `(tactic| walk_at "call ref") => `(tactic| (k_here; (with_reducible show wpAny _ _ (call (Value.ref 169) [Value.ref _, Value.ref _]) _ _ _); k_dflt (refine' div_c ?C ?I ?J ?ha ?hb ?hp ?hq ?_; (case C => walk_at "bb cx"); (case I => walk_at "bb fq"); (case J => walk_at "bb fq"); (case ha => k_asm); (case hb => k_asm); (case hp => k_asm); (case hq => k_asm); k_whole); intro y' dy' h1' h2' t1' t2' tp' tn' v' h' tk' hv' hr' F' N'; (try dsimp only [PySem.W.CmpBack]); (try k_sweep)))
local macro_rules | `(tactic| walk_at "call ref") => `(tactic| (k_here; (with_reducible show wpAny _ _ (call (Value.ref 190) [Value.ref _, Value.ref _]) _ _ _); k_dflt (refine' eq_c ?C ?I ?J ?_; (case C => walk_at "bb cx"); (case I => walk_at "bb fq"); (case J => walk_at "bb fq"); k_whole); intro h' tk' F' N'; (try dsimp only [PySem.W.CmpBack]); (try k_sweep)))
local macro_rules | `(tactic| walk_at "bb pt") => `(tactic| (first | assumption | exact IsPt.keeps (Fr.keep (by assumption)) (by assumption) | exact IsPt.keeps (stays_out (by assumption)) (by assumption) | (refine' ispt_of ?t (isfq_of ?a) (isfq_of ?b) (isfq_of ?c); (case t => first | exact IsTup.keeps (by assumption) (Fr.keep (by assumption)) | exact IsTup.keeps (by assumption) (stays_out (by assumption)) | (refine' News.isTup ?n ?m; (case n => k_asm); (case m => k_mem))); (case a => k_inst); (case b => k_inst); (case c => k_inst)) | fail "bb pt"))
local macro_rules | `(tactic| walk_at "call ref") => `(tactic| (k_here; (first | (with_reducible show wpAny _ _ (call (Value.ref 28) [Value.ref _]) _ _ _) | (with_reducible show wpAny _ _ (call (Value.ref 28) ([Value.ref _] ++ [])) _ _ _)); k_dflt (refine' isinf_c ?C ?I ?hc ?hq ?_; (case C => walk_at "bb cx"); (case I => walk_at "bb pt"); (case hc => k_asm); (case hq => k_asm); k_whole); intro h' tk' F' N'; (try dsimp only [PySem.W.CmpBack]); (try k_sweep)))
local macro_rules | `(tactic| walk_at "call ref") => `(tactic| (k_here; (with_reducible show wpAny _ _ (call (Value.ref 70) [Value.int _ _]) _ _ _); k_dflt (refine' flags_c ?C ?_; (case C => walk_at "bb cx"); k_whole); intro D' h' tk' F' N'; (try dsimp only [PySem.W.CmpBack]); (try k_sweep)))
local macro_rules | `(tactic| walk_at "call ref") => `(tactic| (k_here; (with_reducible show wpAny _ _ (call (Value.ref 78) [Value.int _ _]) _ _ _); k_dflt (refine' ipi_c ?C ?_; (case C => walk_at "bb cx"); k_whole); intro h' tk' F' N'; (try dsimp only [PySem.W.CmpBack]); (try k_sweep)))
local macro_rules | `(tactic| walk_at "call builtin:pow") => `(tactic| (k_here; (with_reducible show wpAny _ _ (call (Value.builtin "pow") [Value.int _ _, Value.int _ _, Value.int _ _]) _ _ _); k_dflt (refine' pow_c ?hm ?he ?_; (case hm => assumption); (case he => first | decide | omega | exact fdiv_nn (by assumption)); k_whole); intro r' hr' hrr'))
local macro_rules | `(tactic| walk_at "bb enterK") => `(tactic| (refine wpAny_call ?_; k_dflt (refine' code_def ?k1 ?k2 ?k3 ?k4 ?k5 rfl ?kF ?kK ?k6 ?k7 ?k8 ?k9 ?kB ?_ ?c2 ?c3 ?c4 ?c5; (case kF => k_asm); (case kK => k_asm); (case k1 => k_asm); (case k2 => k_asm); (case k3 => k_asm); (case k4 => k_asm); (case k5 => k_asm); (case k6 => k_is); (case k7 => k_is); (case k8 => k_room); (case k9 => first | exact BindsTo.of_eq rfl | exact binds_K (by k_in) rfl (by k_is) rfl rfl rfl); (case c5 => decide); (case kB => exact locs rfl); (case c2 => exact rfl); (case c3 => exact rfl); (case c4 => exact rfl); k_whole); intro g' L' h₁ FG' F' N' B' X' T'; (try dsimp only); (try k_fold)))
local macro_rules | `(tactic| k_mem) => `(tactic| first | assumption | (refine List.mem_cons_of_mem _ ?_; k_mem))
set_option maxHeartbeats 8000000 in
theorem dec_c {prog : Program} {w : World} {dp un : Nat} {gd : Option (List Code)} {A₀ : Around} {base h₀ : Heap} {outer : List Env} {env : Env} {L : Addr} {m : Str → Option Value} {news : List (Addr × Obj)} {s : Shared} {p : Program} {loose : List Str} {mean : ExcName → Option Value} {mg mb : Str → Option Value}
    {Q E : Value → Shared → Prop} {y dy : Addr} {z q n e1 e2 : Int} {tz t1 t2 tp tn : Tok}
    (C : Cx w dp un A₀ base h₀ outer env L m news s p loose mean mg mb 20) (hm1 : (y, instObj 257 dy) ∈ news) (hm2 : (dy, fqD e1 e2 t1 t2 q tp n tn) ∈ news) (hn : Rng q n) (hp : q = 7 ∨ q = 19) (hq : 0 < q ∧ q ≤ 19)
    (hret : ∀ D tl a b c h' tk', decF q n z = some (a, b, c) → Rng q a → Rng q b → Rng q c → PtIn tl D q a b c → Fr h₀ L h' m → News h₀ L h' (tl ++ news) → Q (.ref D) { s with heap := h', toks := tk' })
    (hexc : decF q n z = none → ∀ e g h' tk', RaisedN base (env :: outer) e (.type "ValueError") news h' → Fr h₀ L g m → g.UpToSlots h' → E (.ref e) { s with heap := h', toks := tk' }) :
    wpAny (model prog w) (AA dp un gd env outer) (call (.ref 92) [.int z tz, .ref y]) Q E s := by
  obtain ⟨B, F, X, N, T, hf, hke, hd, hu⟩ := C
  have hn' : 0 ≤ n ∧ n < q := hn
  have hsz := big_text z
  have hx0 := fmod381_nn z
  walk_at "bb enterK"
  k_steps
  all_goals first
    | ((rename RaisedN _ _ _ _ _ _ => R')
       (rename Fr h₀ L _ m => FG')
       (rename Heap.UpToSlots _ _ => U')
       refine hexc ?_ _ _ _ _ (raisedN_mono R' (fun p hp => List.mem_cons_of_mem _ hp)) FG' U'
       first
         | exact decF_1 (by assumption)
         | exact decF_2 (by assumption) (by assumption)
         | exact decF_3 (by assumption) (by assumption) (by assumption) (by assumption)
         | exact decF_5 (by assumption) (by assumption) (by assumption) (by assumption)
         | exact decF_6 hq (by assumption) (by assumption) (by assumption) (by assumption) (by assumption) (by assumption) (by assumption))
    | ((rename Fr h₀ L _ m => kF)
       (rename News h₀ L _ _ => kN)
       refine' hret _ [_, _, _, _, _, _, _, _] _ _ _ _ _ ?e ?r1 ?r2 ?r3 ?ip kF kN
       (case ip => (refine' ptin_of ?t (fqin_of ?a1 ?a2) (fqin_of ?b1 ?b2) (fqin_of ?c1 ?c2); (case t => k_mem); (case a1 => k_mem); (case a2 => k_mem); (case b1 => k_mem); (case b2 => k_mem); (case c1 => k_mem); (case c2 => k_mem)))
       (case r1 => assumption)
       (case r2 => assumption)
       (case r3 => assumption)
       (case e =>
         have e10 := one_mod hp
         first
           | (refine (decF_4 (by assumption) (by assumption) (by assumption) (by assumption)).trans ?_; subst_vars; rw [e10, Int.zero_emod])
           | (refine (decF_7 hq (by assumption) (by assumption) (by assumption) (by assumption) (by assumption) (by assumption) (by assumption) (by assumption)).trans ?_; subst_vars; rw [e10])
           | (refine (decF_8 hq (by assumption) (by assumption) (by assumption) (by assumption) (by assumption) (by assumption) (by assumption) (by assumption)).trans ?_; subst_vars; rw [e10])))
end Bb
namespace Bb
local macro_rules | `(tactic| k_room) => `(tactic| ((try simp only [depth_under_make, depth_under_kw, depth_in1, depth_deeper, depth_caller]); (show _ < 1000); omega))
local macro_rules | `(tactic| k_units) => `(tactic| ((try simp only [units_in1, units_deeper, Around.mark_units, units_caller, aa_units]); (show _ < 9900); omega))
local macro_rules | `(tactic| k_inst) => `(tactic| exact inst_keeps (Fr.keep (by assumption)) (by assumption))
local macro_rules | `(tactic| k_inst) => `(tactic| exact inst_keeps (stays_out (by assumption)) (by assumption))
local macro_rules | `(tactic| walk_at "bb cx") => `(tactic| (refine' ⟨?B, ?F, ?X, ?N, ?T, ?hf, ?hke, ?hd, ?hu⟩; (case F => k_asm); (case N => k_asm); (case X => k_asm); (case T => k_asm); (case B => k_asm); (case hf => exact rfl); (case hke => exact rfl); (case hd => (simp only [depth_under_make, depth_under_kw, depth_in1, depth_deeper, depth_caller, aa_depth]; omega)); (case hu => (simp only [units_in1, units_deeper, Around.mark_units, units_caller, aa_units]; omega))))
local macro_rules | `(tactic| walk_at "bb fq") => `(tactic| (exact ⟨_, _, _, _, _, _, _, by k_inst⟩))
local macro_rules | `(tactic| walk_at "bb enter") => `(tactic| (refine wpAny_call ?_; k_dflt (refine' code_pure ?B ?F ?X ?T rfl ?hf ?hke ?k6 ?k7 ?k8 ?k9 ?kB ?_ ?c2 ?c3 ?c4 ?c5; (case F => k_asm); (case X => k_asm); (case T => k_asm); (case B => k_asm); (case hf => k_asm); (case hke => k_asm); (case k6 => k_is); (case k7 => k_is); (case k8 => k_room); (case k9 => first | exact BindsTo.of_eq rfl | exact binds_K (by k_in) rfl (by k_is) rfl rfl rfl); (case c5 => decide); (case kB => exact locs rfl); (case c2 => exact rfl); (case c3 => exact rfl); (case c4 => exact rfl); k_whole); intro L' h₁ F' N' B' X' T'; (try dsimp only); (try k_fold)))
local macro_rules | `(tactic| walk_at "binaryOp Mult int ref") => `(tactic| (k_here; k_dflt (refine' int_mul_fq ?F ?X ?I ?hc ?hs ?hr ?hf ?hsub ?_; (case F => k_asm); (case X => k_asm); (case I => k_inst); (case hc => k_is); (case hs => k_is); (case hr => k_is); (case hf => k_is); (case hsub => k_is); k_whole)))
local macro_rules | `(tactic| walk_at "binaryOp Div ref ref") => `(tactic| (k_here; k_dflt (refine' binop_K ?k1 ?k2 ?k3 ?k4 ?k5 ?k6 ?k7 ?_; (case k1 => k_asm); (case k2 => k_asm); (case k3 => k_inst); (case k4 => k_typeOf); (case k5 => k_is); (case k6 => k_is); (case k7 => k_is); k_whole)))
local macro_rules | `(tactic| walk_at "call builtin:pow") => `(tactic| (k_here; (with_reducible show wpAny _ _ (call (Value.builtin "pow") [Value.int _ _, Value.int _ _, Value.int _ _]) _ _ _); k_dflt (refine' pow_c ?hm ?he ?_; (case hm => assumption); (case he => first | decide | omega | exact fdiv_nn (by assumption)); k_whole); intro r' hr' hrr'))
set_option maxHeartbeats 8000000 in
theorem num_c {prog : Program} {w : World} {dp un : Nat} {gd : Option (List Code)} {A₀ : Around} {base h₀ : Heap} {outer : List Env} {env : Env} {L : Addr} {m : Str → Option Value} {news : List (Addr × Obj)} {s : Shared} {p : Program} {loose : List Str} {mean : ExcName → Option Value} {mg mb : Str → Option Value}
    {Q E : Value → Shared → Prop} {v : Value} {p₀ : Int} {tp : Tok} {o : LP}
    (C : Cx w dp un A₀ base h₀ outer env L m news s p loose mean mg mb 5) (I0 : IsLP s.heap v o) (ho : LPok p₀ o)
    (hret : ∀ v' t h' tk', v' = numF p₀ o → Fr h₀ L h' m → News h₀ L h' news → Q (.int v' t) { s with heap := h', toks := tk' }) :
    wpAny (model prog w) (AA dp un gd env outer) (call (.ref 276) [v, .int p₀ tp]) Q E s := by
  obtain ⟨B, F, X, N, T, hf, hke, hd, hu⟩ := C
  rcases o with _ | ⟨x, y⟩
  · cases I0
    walk_at "bb enter"
    k_steps
    all_goals (
      (rename Heap.StaysIn _ _ => st)
      (rename Fr h₀ _ _ _ => kF)
      exact hret _ _ _ _ (by rfl) kF (news_join N st News.nil))
  · obtain ⟨t, tx, ty, rfl, It⟩ := I0
    obtain ⟨hx, hy⟩ := ho
    have hx' : 0 ≤ x ∧ x < p₀ := hx
    have hy' : 0 ≤ y ∧ y < p₀ := hy
    walk_at "bb enter"
    k_steps
    all_goals (
      (rename Heap.StaysIn _ _ => st)
      (rename Fr h₀ _ _ _ => kF)
      exact hret _ _ _ _ (by dsimp only [numF]; first | (rw [if_pos (by assumption)]; rfl) | (rw [if_neg (by assumption)]; rfl)) kF (news_join N st News.nil))
local macro_rules | `(tactic| walk_at "binaryOp Mult int int") => `(tactic| (refine mul_int ?_ (by first | exact mulok_a (by assumption) (by assumption) (by assumption) | exact mulok_b (by assumption) (by assumption) (by assumption) (by assumption) | exact mulok_r (by assumption) (by assumption))))
local macro_rules | `(tactic| walk_at "compareOp Eq ref ref") => `(tactic| (k_here; k_dflt (refine' eq_pair ?h1 ?h2 ?hu ?_; (case h1 => first | exact IsTup.keeps (by assumption) (Fr.keep (by assumption)) | exact News.isTup (by assumption) (by k_mem)); (case h2 => first | exact IsTup.keeps (by assumption) (Fr.keep (by assumption)) | exact News.isTup (by assumption) (by k_mem)); (case hu => k_units); k_whole)))
set_option maxHeartbeats 8000000 in
theorem sum_c {prog : Program} {w : World} {dp un : Nat} {gd : Option (List Code)} {A₀ : Around} {base h₀ : Heap} {outer : List Env} {env : Env} {L : Addr} {m : Str → Option Value} {news : List (Addr × Obj)} {s : Shared} {p : Program} {loose : List Str} {mean : ExcName → Option Value} {mg mb : Str → Option Value}
    {Q E : Value → Shared → Prop} {v₁ v₂ : Value} {p₀ : Int} {tp : Tok} {o₁ o₂ : LP}
    (C : Cx w dp un A₀ base h₀ outer env L m news s p loose mean mg mb 20) (I0 : IsLP s.heap v₁ o₁) (I1 : IsLP s.heap v₂ o₂) (ho : LPok p₀ o₁) (ho2 : LPok p₀ o₂) (hp : p₀ = 7 ∨ p₀ = 19) (hq : 0 < p₀ ∧ p₀ ≤ 19)
    (hret : ∀ v' h' tk' tl, IsLP h' v' (sumF p₀ o₁ o₂) → Fr h₀ L h' m → News h₀ L h' (tl ++ news) → Q v' { s with heap := h', toks := tk' }) :
    wpAny (model prog w) (AA dp un gd env outer) (call (.ref 269) [v₁, v₂, .int p₀ tp]) Q E s := by
  obtain ⟨B, F, X, N, T, hf, hke, hd, hu⟩ := C
  rcases o₁ with _ | ⟨x1, y1⟩
  · cases I0
    rcases o₂ with _ | ⟨x2, y2⟩
    · cases I1
      walk_at "bb enter"
      k_steps
      all_goals (
        (rename Heap.StaysIn _ _ => st)
        (rename Fr h₀ _ _ _ => kF)
        (rename News h₀ _ _ _ => kN)
        refine hret _ _ _ _ ?_ kF (news_join N st kN)
        first
          | exact rfl
          | exact islp_pair (IsTup.keeps It2 st)
          | exact islp_pair (IsTup.keeps It1 st)
          | exact islp_eq (sumF_none (by assumption) (by assumption)) rfl
          | exact islp_eq (sumF_eq hq (by assumption) (by assumption) (by assumption)) (islp_pair (News.isTup kN (.head _)))
          | exact islp_eq (sumF_ne hq (by assumption) (by assumption)) (islp_pair (News.isTup kN (.head _))))
    · obtain ⟨t2, tx2, ty2, rfl, It2⟩ := I1
      walk_at "bb enter"
      k_steps
      all_goals (
        (rename Heap.StaysIn _ _ => st)
        (rename Fr h₀ _ _ _ => kF)
        (rename News h₀ _ _ _ => kN)
        refine hret _ _ _ _ ?_ kF (news_join N st kN)
        first
          | exact rfl
          | exact islp_pair (IsTup.keeps It2 st)
          | exact islp_pair (IsTup.keeps It1 st)
          | exact islp_eq (sumF_none (by assumption) (by assumption)) rfl
          | exact islp_eq (sumF_eq hq (by assumption) (by assumption) (by assumption)) (islp_pair (News.isTup kN (.head _)))
          | exact islp_eq (sumF_ne hq (by assumption) (by assumption)) (islp_pair (News.isTup kN (.head _))))
  · obtain ⟨t1, tx1, ty1, rfl, It1⟩ := I0
    rcases o₂ with _ | ⟨x2, y2⟩
    · cases I1
      walk_at "bb enter"
      k_steps
      all_goals (
        (rename Heap.StaysIn _ _ => st)
        (rename Fr h₀ _ _ _ => kF)
        (rename News h₀ _ _ _ => kN)
        refine hret _ _ _ _ ?_ kF (news_join N st kN)
        first
          | exact rfl
          | exact islp_pair (IsTup.keeps It2 st)
          | exact islp_pair (IsTup.keeps It1 st)
          | exact islp_eq (sumF_none (by assumption) (by assumption)) rfl
          | exact islp_eq (sumF_eq hq (by assumption) (by assumption) (by assumption)) (islp_pair (News.isTup kN (.head _)))
          | exact islp_eq (sumF_ne hq (by assumption) (by assumption)) (islp_pair (News.isTup kN (.head _))))
    · obtain ⟨t2, tx2, ty2, rfl, It2⟩ := I1
      obtain ⟨hx1, hy1⟩ := ho
      obtain ⟨hx2, hy2⟩ := ho2
      have hx1' : 0 ≤ x1 ∧ x1 < p₀ := hx1
      have hy1' : 0 ≤ y1 ∧ y1 < p₀ := hy1
      have hx2' : 0 ≤ x2 ∧ x2 < p₀ := hx2
      have hy2' : 0 ≤ y2 ∧ y2 < p₀ := hy2
      walk_at "bb enter"
      k_steps
      all_goals (
        (rename Heap.StaysIn _ _ => st)
        (rename Fr h₀ _ _ _ => kF)
        (rename News h₀ _ _ _ => kN)
        refine hret _ _ _ _ ?_ kF (news_join N st kN)
        first
          | exact rfl
          | exact islp_pair (IsTup.keeps It2 st)
          | exact islp_pair (IsTup.keeps It1 st)
          | exact islp_eq (sumF_none (by assumption) (by assumption)) rfl
          | exact islp_eq (sumF_eq hq (by assumption) (by assumption) (by assumption)) (islp_pair (News.isTup kN (.head _)))
          | exact islp_eq (sumF_ne hq (by assumption) (by assumption)) (islp_pair (News.isTup kN (.head _))))
end Bb
namespace Bb
local macro_rules | `(tactic| k_room) => `(tactic| ((try simp only [depth_under_make, depth_under_kw, depth_in1, depth_deeper, depth_caller]); (show _ < 1000); omega))
local macro_rules | `(tactic| k_units) => `(tactic| ((try simp only [units_in1, units_deeper, Around.mark_units, units_caller, aa_units]); (show _ < 9900); omega))
local macro_rules | `(tactic| k_inst) => `(tactic| exact inst_keeps (Fr.keep (by assumption)) (by assumption))
local macro_rules | `(tactic| k_inst) => `(tactic| exact inst_keeps (stays_out (by assumption)) (by assumption))
local macro_rules | `(tactic| walk_at "bb cx") => `(tactic| (refine' ⟨?B, ?F, ?X, ?N, ?T, ?hf, ?hke, ?hd, ?hu⟩; (case F => k_asm); (case N => k_asm); (case X => k_asm); (case T => k_asm); (case B => k_asm); (case hf => exact rfl); (case hke => exact rfl); (case hd => (simp only [depth_under_make, depth_under_kw, depth_in1, depth_deeper, depth_caller, aa_depth]; omega)); (case hu => (simp only [units_in1, units_deeper, Around.mark_units, units_caller, aa_units]; omega))))
local macro_rules | `(tactic| walk_at "bb fq") => `(tactic| (exact ⟨_, _, _, _, _, _, _, by k_inst⟩))
local macro_rules | `(tactic| walk_at "bb enter") => `(tactic| (refine wpAny_call ?_; k_dflt (refine' code_pure ?B ?F ?X ?T rfl ?hf ?hke ?k6 ?k7 ?k8 ?k9 ?kB ?_ ?c2 ?c3 ?c4 ?c5; (case F => k_asm); (case X => k_asm); (case T => k_asm); (case B => k_asm); (case hf => k_asm); (case hke => k_asm); (case k6 => k_is); (case k7 => k_is); (case k8 => k_room); (case k9 => first | exact BindsTo.of_eq rfl | exact binds_K (by k_in) rfl (by k_is) rfl rfl rfl); (case c5 => decide); (case kB => exact locs rfl); (case c2 => exact rfl); (case c3 => exact rfl); (case c4 => exact rfl); k_whole); intro L' h₁ F' N' B' X' T'; (try dsimp only); (try k_fold)))
local macro_rules | `(tactic| walk_at "binaryOp Mult int ref") => `(tactic| (k_here; k_dflt (refine' int_mul_fq ?F ?X ?I ?hc ?hs ?hr ?hf ?hsub ?_; (case F => k_asm); (case X => k_asm); (case I => k_inst); (case hc => k_is); (case hs => k_is); (case hr => k_is); (case hf => k_is); (case hsub => k_is); k_whole)))
local macro_rules | `(tactic| walk_at "binaryOp Div ref ref") => `(tactic| (k_here; k_dflt (refine' binop_K ?k1 ?k2 ?k3 ?k4 ?k5 ?k6 ?k7 ?_; (case k1 => k_asm); (case k2 => k_asm); (case k3 => k_inst); (case k4 => k_typeOf); (case k5 => k_is); (case k6 => k_is); (case k7 => k_is); k_whole)))
theorem dec_l {prog : Program} {w : World} {dp un : Nat} {gd : Option (List Code)} {A₀ : Around} {base h₀ : Heap} {outer : List Env} {env : Env} {L : Addr} {m : Str → Option Value} {s : Shared} {p : Program} {loose : List Str} {mean : ExcName → Option Value} {mg mb : Str → Option Value}
    {Q E : Value → Shared → Prop} {y dy I2 I fd : Addr} {oI2 oI o : Obj} {kvs : List (Int × Value)} {rest : List (Addr × Obj)} {z q n e1 e2 : Int} {tz t1 t2 tp tn : Tok}
    (C : Cx w dp un A₀ base h₀ outer env L m ((I2, oI2) :: (I, oI) :: (fd, o) :: rest) s p loose mean mg mb 20) (hm1 : (y, instObj 257 dy) ∈ (I2, oI2) :: (I, oI) :: (fd, o) :: rest) (hm2 : (dy, fqD e1 e2 t1 t2 q tp n tn) ∈ (I2, oI2) :: (I, oI) :: (fd, o) :: rest) (hn : Rng q n) (hp : q = 7 ∨ q = 19) (hq : 0 < q ∧ q ≤ 19) (it2 : IterO oI2) (it1 : IterO oI) (hd : o.IsDictOf (intKind prog w) kvs)
    (hret : ∀ D tl7 a b c h' tk', decF q n z = some (a, b, c) → Rng q a → Rng q b → Rng q c → PtIn tl7 D q a b c → (∀ x ∈ tl7, x.1 ≠ I2) → (∀ x ∈ tl7, x.1 ≠ I) → (∀ x ∈ tl7, x.1 ≠ fd) → Fr h₀ L h' m → News h₀ L h' ((I2, oI2) :: (I, oI) :: (fd, o) :: (tl7 ++ rest)) → Q (.ref D) { s with heap := h', toks := tk' })
    (hexc : decF q n z = none → ∀ e g h' tk', RaisedN base (env :: outer) e (.type "ValueError") ((I2, oI2) :: (I, oI) :: (fd, o) :: rest) h' → Fr h₀ L g m → g.UpToSlots h' → E (.ref e) { s with heap := h', toks := tk' }) :
    wpAny (model prog w) (AA dp un gd env outer) (call (.ref 92) [.int z tz, .ref y]) Q E s := by
  refine dec_c C hm1 hm2 hn hp hq (fun D tl a b c h' tk' e r1 r2 r3 ip F N => ?_) hexc
  obtain ⟨tl7, ip7, hs, hk⟩ := pt7 ip (all := tl ++ (I2, oI2) :: (I, oI) :: (fd, o) :: rest) (fun p hp => List.mem_append.mpr (.inl hp))
  refine hret D tl7 a b c h' tk' e r1 r2 r3 ip7 (fun x hx => News.twoPlaces N (hs x hx) (q := (I2, oI2)) (List.mem_append.mpr (.inr (.head _))) (kd_iter (hk x hx) it2)) (fun x hx => News.twoPlaces N (hs x hx) (q := (I, oI)) (List.mem_append.mpr (.inr (.tail _ (.head _)))) (kd_iter (hk x hx) it1)) (fun x hx => News.twoPlaces N (hs x hx) (q := (fd, o)) (List.mem_append.mpr (.inr (.tail _ (.tail _ (.head _))))) (kd_forms (hk x hx) hd)) F (fun x hx => N x ?_)
  rcases List.mem_cons.mp hx with rfl | hx
  · exact List.mem_append.mpr (.inr (.head _))
  · rcases List.mem_cons.mp hx with rfl | hx
    · exact List.mem_append.mpr (.inr (.tail _ (.head _)))
    · rcases List.mem_cons.mp hx with rfl | hx
      · exact List.mem_append.mpr (.inr (.tail _ (.tail _ (.head _))))
      · rcases List.mem_append.mp hx with hx | hx
        · exact hs x hx
        · exact List.mem_append.mpr (.inr (.tail _ (.tail _ (.tail _ hx))))
end Bb
namespace Bb
local macro_rules | `(tactic| k_room) => `(tactic| ((try simp only [depth_under_make, depth_under_kw, depth_in1, depth_deeper, depth_caller]); (show _ < 1000); omega))
local macro_rules | `(tactic| k_units) => `(tactic| ((try simp only [units_in1, units_deeper, Around.mark_units, units_caller, aa_units]); (show _ < 9900); omega))
local macro_rules | `(tactic| k_inst) => `(tactic| exact inst_keeps (Fr.keep (by assumption)) (by assumption))
local macro_rules | `(tactic| k_inst) => `(tactic| exact inst_keeps (stays_out (by assumption)) (by assumption))
local macro_rules | `(tactic| walk_at "bb cx") => `(tactic| (refine' ⟨?B, ?F, ?X, ?N, ?T, ?hf, ?hke, ?hd, ?hu⟩; (case F => k_asm); (case N => k_asm); (case X => k_asm); (case T => k_asm); (case B => k_asm); (case hf => exact rfl); (case hke => exact rfl); (case hd => (simp only [depth_under_make, depth_under_kw, depth_in1, depth_deeper, depth_caller, aa_depth]; omega)); (case hu => (simp only [units_in1, units_deeper, Around.mark_units, units_caller, aa_units]; omega))))
local macro_rules | `(tactic| walk_at "bb fq") => `(tactic| (exact ⟨_, _, _, _, _, _, _, by k_inst⟩))
local macro_rules | `(tactic| walk_at "bb enter") => `(tactic| (refine wpAny_call ?_; k_dflt (refine' code_pure ?B ?F ?X ?T rfl ?hf ?hke ?k6 ?k7 ?k8 ?k9 ?kB ?_ ?c2 ?c3 ?c4 ?c5; (case F => k_asm); (case X => k_asm); (case T => k_asm); (case B => k_asm); (case hf => k_asm); (case hke => k_asm); (case k6 => k_is); (case k7 => k_is); (case k8 => k_room); (case k9 => first | exact BindsTo.of_eq rfl | exact binds_K (by k_in) rfl (by k_is) rfl rfl rfl); (case c5 => decide); (case kB => exact locs rfl); (case c2 => exact rfl); (case c3 => exact rfl); (case c4 => exact rfl); k_whole); intro L' h₁ F' N' B' X' T'; (try dsimp only); (try k_fold)))
local macro_rules | `(tactic| walk_at "binaryOp Mult int ref") => `(tactic| (k_here; k_dflt (refine' int_mul_fq ?F ?X ?I ?hc ?hs ?hr ?hf ?hsub ?_; (case F => k_asm); (case X => k_asm); (case I => k_inst); (case hc => k_is); (case hs => k_is); (case hr => k_is); (case hf => k_is); (case hsub => k_is); k_whole)))
local macro_rules | `(tactic| walk_at "binaryOp Div ref ref") => `(tactic| (k_here; k_dflt (refine' binop_K ?k1 ?k2 ?k3 ?k4 ?k5 ?k6 ?k7 ?_; (case k1 => k_asm); (case k2 => k_asm); (case k3 => k_inst); (case k4 => k_typeOf); (case k5 => k_is); (case k6 => k_is); (case k7 => k_is); k_whole)))
theorem isinf_t {prog : Program} {w : World} {dp un : Nat} {gd : Option (List Code)} {A₀ : Around} {base h₀ : Heap} {outer : List Env} {env : Env} {L : Addr} {m : Str → Option Value} {news : List (Addr × Obj)} {s : Shared} {p : Program} {loose : List Str} {mean : ExcName → Option Value} {mg mb : Str → Option Value}
    {Q E : Value → Shared → Prop} {t : Addr} {q a b c : Int}
    (C : Cx w dp un A₀ base h₀ outer env L m news s p loose mean mg mb 11) (J0 : IsPt s.heap t q a b c) (hc : Rng q c) (hq : 0 < q ∧ q ≤ 19) (h0 : c = 0)
    (hret : ∀ h' tk', Fr h₀ L h' m → News h₀ L h' news → Q (.bool true) { s with heap := h', toks := tk' }) :
    wpAny (model prog w) (AA dp un gd env outer) (call (.ref 28) [.ref t]) Q E s :=
  isinf_c C J0 hc hq fun h' tk' F N => by rw [h0]; exact hret h' tk' F N
theorem isinf_f {prog : Program} {w : World} {dp un : Nat} {gd : Option (List Code)} {A₀ : Around} {base h₀ : Heap} {outer : List Env} {env : Env} {L : Addr} {m : Str → Option Value} {news : List (Addr × Obj)} {s : Shared} {p : Program} {loose : List Str} {mean : ExcName → Option Value} {mg mb : Str → Option Value}
    {Q E : Value → Shared → Prop} {t : Addr} {q a b c : Int}
    (C : Cx w dp un A₀ base h₀ outer env L m news s p loose mean mg mb 11) (J0 : IsPt s.heap t q a b c) (hc : Rng q c) (hq : 0 < q ∧ q ≤ 19) (h0 : c = 1)
    (hret : ∀ h' tk', Fr h₀ L h' m → News h₀ L h' news → Q (.bool false) { s with heap := h', toks := tk' }) :
    wpAny (model prog w) (AA dp un gd env outer) (call (.ref 28) [.ref t]) Q E s :=
  isinf_c C J0 hc hq fun h' tk' F N => by rw [h0]; exact hret h' tk' F N
theorem eqp_t {prog : Program} {w : World} {dp un : Nat} {gd : Option (List Code)} {A₀ : Around} {base h₀ : Heap} {outer : List Env} {env : Env} {L : Addr} {m : Str → Option Value} {news : List (Addr × Obj)} {s : Shared} {p : Program} {loose : List Str} {mean : ExcName → Option Value} {mg mb : Str → Option Value}
    {Q E : Value → Shared → Prop} {t t' : Addr} {q a b c a₂ b₂ c₂ : Int}
    (C : Cx w dp un A₀ base h₀ outer env L m news s p loose mean mg mb 12) (J0 : IsPt s.heap t q a b c) (J1 : IsPt s.heap t' q a₂ b₂ c₂) (ha : Rng q a) (hb : Rng q b) (hc : Rng q c) (h2a : Rng q a₂) (h2b : Rng q b₂) (h2c : Rng q c₂) (hq : 0 < q ∧ q ≤ 19) (e1 : a = a₂) (e2 : b = b₂) (e3 : c = c₂)
    (hret : ∀ h' tk', Fr h₀ L h' m → News h₀ L h' news → Q (.bool true) { s with heap := h', toks := tk' }) :
    wpAny (model prog w) (AA dp un gd env outer) (call (.ref 49) [.ref t, .ref t']) Q E s :=
  eqp_c C J0 J1 ha hb hc h2a h2b h2c hq fun h' tk' F N => by subst e1; subst e2; subst e3; simp only [beq_self_eq_true, Bool.and_self]; exact hret h' tk' F N
theorem sum_l {prog : Program} {w : World} {dp un : Nat} {gd : Option (List Code)} {A₀ : Around} {base h₀ : Heap} {outer : List Env} {env : Env} {L : Addr} {m : Str → Option Value} {news : List (Addr × Obj)} {s : Shared} {p : Program} {loose : List Str} {mean : ExcName → Option Value} {mg mb : Str → Option Value}
    {Q E : Value → Shared → Prop} {v₁ v₂ : Value} {p₀ : Int} {tp : Tok} {o₁ o₂ : LP}
    (C : Cx w dp un A₀ base h₀ outer env L m news s p loose mean mg mb 20) (I0 : IsLP s.heap v₁ o₁) (I1 : IsLP s.heap v₂ o₂) (ho : LPok p₀ o₁) (ho2 : LPok p₀ o₂) (hp : p₀ = 7 ∨ p₀ = 19) (hq : 0 < p₀ ∧ p₀ ≤ 19)
    (hret : ∀ v' h' tk', IsLP h' v' (sumF p₀ o₁ o₂) → LPok p₀ (sumF p₀ o₁ o₂) → Fr h₀ L h' m → News h₀ L h' news → Q v' { s with heap := h', toks := tk' }) :
    wpAny (model prog w) (AA dp un gd env outer) (call (.ref 269) [v₁, v₂, .int p₀ tp]) Q E s :=
  sum_c C I0 I1 ho ho2 hp hq fun v' h' tk' tl i F N => hret v' h' tk' i (lpok_sum hq ho ho2) F fun x hx => N x (List.mem_append.mpr (.inr hx))
theorem int_ne_f {prog : Program} {w : World} {A : Around} {E : Value → Shared → Prop} {s : Shared} {a b : Int} {t u : Tok} {Q : Value → Shared → Prop} (e : a = b) (h : Q (.bool false) s) : wpAny (model prog w) A (compareOp .NotEq (.int a t) (.int b u)) Q E s := PyProof.Rows.ne_int (by subst e; simpa using h)
theorem int_eq_t {prog : Program} {w : World} {A : Around} {E : Value → Shared → Prop} {s : Shared} {a b : Int} {t u : Tok} {Q : Value → Shared → Prop} (e : a = b) (h : Q (.bool true) s) : wpAny (model prog w) A (compareOp .Eq (.int a t) (.int b u)) Q E s := PyProof.Rows.eq_int (by subst e; simpa using h)
end Bb
namespace Bb
local macro_rules | `(tactic| k_room) => `(tactic| ((try simp only [depth_under_make, depth_under_kw, depth_in1, depth_deeper, depth_caller]); (show _ < 1000); omega))
local macro_rules | `(tactic| k_units) => `(tactic| ((try simp only [units_in1, units_deeper, Around.mark_units, units_caller, aa_units]); (show _ < 9900); omega))
local macro_rules | `(tactic| k_inst) => `(tactic| exact inst_keeps (Fr.keep (by assumption)) (by assumption))
local macro_rules | `(tactic| k_inst) => `(tactic| exact inst_keeps (stays_out (by assumption)) (by assumption))
local macro_rules | `(tactic| walk_at "bb cx") => `(tactic| (refine' ⟨?B, ?F, ?X, ?N, ?T, ?hf, ?hke, ?hd, ?hu⟩; (case F => k_asm); (case N => k_asm); (case X => k_asm); (case T => k_asm); (case B => k_asm); (case hf => exact rfl); (case hke => exact rfl); (case hd => (simp only [depth_under_make, depth_under_kw, depth_in1, depth_deeper, depth_caller, aa_depth]; omega)); (case hu => (simp only [units_in1, units_deeper, Around.mark_units, units_caller, aa_units]; omega))))
local macro_rules | `(tactic| walk_at "bb fq") => `(tactic| (exact ⟨_, _, _, _, _, _, _, by k_inst⟩))
local macro_rules | `(tactic| walk_at "bb enter") => `(tactic| (refine wpAny_call ?_; k_dflt (refine' code_pure ?B ?F ?X ?T rfl ?hf ?hke ?k6 ?k7 ?k8 ?k9 ?kB ?_ ?c2 ?c3 ?c4 ?c5; (case F => k_asm); (case X => k_asm); (case T => k_asm); (case B => k_asm); (case hf => k_asm); (case hke => k_asm); (case k6 => k_is); (case k7 => k_is); (case k8 => k_room); (case k9 => first | exact BindsTo.of_eq rfl | exact binds_K (by k_in) rfl (by k_is) rfl rfl rfl); (case c5 => decide); (case kB => exact locs rfl); (case c2 => exact rfl); (case c3 => exact rfl); (case c4 => exact rfl); k_whole); intro L' h₁ F' N' B' X' T'; (try dsimp only); (try k_fold)))
local macro_rules | `(tactic| walk_at "binaryOp Mult int ref") => `(tactic| (k_here; k_dflt (refine' int_mul_fq ?F ?X ?I ?hc ?hs ?hr ?hf ?hsub ?_; (case F => k_asm); (case X => k_asm); (case I => k_inst); (case hc => k_is); (case hs => k_is); (case hr => k_is); (case hf => k_is); (case hsub => k_is); k_whole)))
local macro_rules | `(tactic| walk_at "binaryOp Div ref ref") => `(tactic| (k_here; k_dflt (refine' binop_K ?k1 ?k2 ?k3 ?k4 ?k5 ?k6 ?k7 ?_; (case k1 => k_asm); (case k2 => k_asm); (case k3 => k_inst); (case k4 => k_typeOf); (case k5 => k_is); (case k6 => k_is); (case k7 => k_is); k_whole)))
local macro_rules | `(tactic| k_mem) => `(tactic| first | assumption | (refine List.mem_cons_of_mem _ ?_; k_mem))
local macro_rules | `(tactic| walk_at "bb enterN") => `(tactic| (k_dflt (refine' call_cls ?k1 ?k2 ?k3 ?k4 ?k5 ?k6 ?_; (case k1 => k_asm); (case k2 => k_asm); (case k3 => k_asm); (case k4 => k_is); (case k5 => k_is); (case k6 => k_is); k_whole); intro x' d' h' F' N' l1 l2; (try k_lt l1); (try k_lt2 l2); k_dflt (refine' code_def ?k1 ?k2 ?k3 ?k4 ?k5 ?kA ?kF ?kK ?k6 ?k7 ?k8 ?k9 ?kB ?_ ?c2 ?c3 ?c4 ?c5; (case kA => exact rfl); (case kF => k_asm); (case kK => k_asm); (case k1 => k_asm); (case k2 => k_asm); (case k3 => k_asm); (case k4 => k_asm); (case k5 => k_asm); (case k6 => k_is); (case k7 => k_is); (case k8 => k_room); (case k9 => first | exact BindsTo.of_eq rfl | exact binds_K (by k_in) rfl (by k_is) rfl rfl rfl); (case c5 => decide); (case kB => exact locs rfl); (case c2 => exact rfl); (case c3 => exact rfl); (case c4 => exact rfl); k_whole); intro g' L' h' FG' F' N' B' X' T'; (try dsimp only); (try k_fold)))
set_option maxHeartbeats 8000000 in
theorem new_c {prog : Program} {w : World} {dp un : Nat} {gd : Option (List Code)} {A₀ : Around} {base h₀ : Heap} {outer : List Env} {env : Env} {L : Addr} {m : Str → Option Value} {news : List (Addr × Obj)} {s : Shared} {p : Program} {loose : List Str} {mean : ExcName → Option Value} {mg mb : Str → Option Value}
    {Q E : Value → Shared → Prop} {q k : Int} {tk tq : Tok}
    (C : Cx w dp un A₀ base h₀ outer env L m news s p loose mean mg mb 5) (hq : 0 < q ∧ q ≤ 19)
    (hret : ∀ y dy h1 h2 t1 t2 tp tn v h' tk', v = k % q → Rng q v → Fr h₀ L h' m → News h₀ L h' ((y, instObj 257 dy) :: (dy, fqD h1 h2 t1 t2 q tp v tn) :: news) → Q (.ref y) { s with heap := h', toks := tk' }) :
    wpAny (model prog w) (AA dp un gd env outer) (call (.ref 257) [.int k tk, .int q tq]) Q E s := by
  obtain ⟨B, F, X, N, T, hf, hke, hd, hu⟩ := C
  walk_at "bb enterN"
  k_steps
  (rename Fr h₀ _ _ _ => kF)
  (rename News h₀ _ _ _ => kN)
  exact hret _ _ _ _ _ _ _ _ (k.fmod q) _ _ (fmod_is hq) (rng_fmod hq) kF kN
end Bb
namespace Bb
local macro_rules | `(tactic| k_room) => `(tactic| ((try simp only [depth_under_make, depth_under_kw, depth_in1, depth_deeper, depth_caller]); (show _ < 1000); omega))
local macro_rules | `(tactic| k_units) => `(tactic| ((try simp only [units_in1, units_deeper, Around.mark_units, units_caller, aa_units]); (show _ < 9900); omega))
local macro_rules | `(tactic| k_inst) => `(tactic| exact inst_keeps (Fr.keep (by assumption)) (by assumption))
local macro_rules | `(tactic| k_inst) => `(tactic| exact inst_keeps (stays_out (by assumption)) (by assumption))
local macro_rules | `(tactic| walk_at "bb cx") => `(tactic| (refine' ⟨?B, ?F, ?X, ?N, ?T, ?hf, ?hke, ?hd, ?hu⟩; (case F => k_asm); (case N => k_asm); (case X => k_asm); (case T => k_asm); (case B => k_asm); (case hf => exact rfl); (case hke => exact rfl); (case hd => (simp only [depth_under_make, depth_under_kw, depth_in1, depth_deeper, depth_caller, aa_depth]; omega)); (case hu => (simp only [units_in1, units_deeper, Around.mark_units, units_caller, aa_units]; omega))))
local macro_rules | `(tactic| walk_at "bb fq") => `(tactic| (exact ⟨_, _, _, _, _, _, _, by k_inst⟩))
local macro_rules | `(tactic| walk_at "bb enter") => `(tactic| (refine wpAny_call ?_; k_dflt (refine' code_pure ?B ?F ?X ?T rfl ?hf ?hke ?k6 ?k7 ?k8 ?k9 ?kB ?_ ?c2 ?c3 ?c4 ?c5; (case F => k_asm); (case X => k_asm); (case T => k_asm); (case B => k_asm); (case hf => k_asm); (case hke => k_asm); (case k6 => k_is); (case k7 => k_is); (case k8 => k_room); (case k9 => first | exact BindsTo.of_eq rfl | exact binds_K (by k_in) rfl (by k_is) rfl rfl rfl); (case c5 => decide); (case kB => exact locs rfl); (case c2 => exact rfl); (case c3 => exact rfl); (case c4 => exact rfl); k_whole); intro L' h₁ F' N' B' X' T'; (try dsimp only); (try k_fold)))
local macro_rules | `(tactic| walk_at "binaryOp Mult int ref") => `(tactic| (k_here; k_dflt (refine' int_mul_fq ?F ?X ?I ?hc ?hs ?hr ?hf ?hsub ?_; (case F => k_asm); (case X => k_asm); (case I => k_inst); (case hc => k_is); (case hs => k_is); (case hr => k_is); (case hf => k_is); (case hsub => k_is); k_whole)))
local macro_rules | `(tactic| walk_at "binaryOp Div ref ref") => `(tactic| (k_here; k_dflt (refine' binop_K ?k1 ?k2 ?k3 ?k4 ?k5 ?k6 ?k7 ?_; (case k1 => k_asm); (case k2 => k_asm); (case k3 => k_inst); (case k4 => k_typeOf); (case k5 => k_is); (case k6 => k_is); (case k7 => k_is); k_whole)))
local macro_rules | `(tactic| k_upd) => `(tactic| exact Upd.head (by assumption))
local macro_rules | `(tactic| k_ne) => `(tactic| assumption)
local macro_rules | `(tactic| size_fits) => `(tactic| (simp only [Array.size_push, sizeLine_eq]; omega))
local macro_rules | `(tactic| walk_at "exec Try") => `(tactic| (refine wpAny_Try_except ?_))
local macro_rules | `(tactic| walk_at "exec For") => `(tactic| (k_here; (rename Fr _ _ _ _ => lF'); (with_unfolding_all refine' For_invVF lF' ?k1 ?k2 ?_; (case k1 => exact rfl); (case k2 => exact rfl); k_whole)))
local macro_rules | `(tactic| walk_at "bb tl") => `(tactic| (first | with_reducible assumption | (refine List.mem_cons_of_mem _ ?_; walk_at "bb tl") | fail "bb tl"))
local macro_rules | `(tactic| walk_at "call builtin:len") => `(tactic| (k_here; k_dflt (refine' len_pts ?N ?m ?h0 ?h37 ?_; (case N => k_asm); (case m => k_mem); (case h0 => assumption); (case h37 => assumption); k_whole); intro n' hn0' hn1' hn2'))
local macro_rules | `(tactic| walk_at "subscriptTail") => `(tactic| (k_here; (with_reducible show wpAny _ _ (subscriptTail _ _ (Value.ref _) (Value.int _ _)) _ _ _); k_dflt (refine' item_pts ?N ?m ?hp ?h0 ?h1 ?h37 (stop_mk ?drawnP) ?hs; (case N => k_asm); (case m => k_mem); (case hp => with_reducible assumption); (case h37 => with_reducible assumption); (case h0 => exact fm_0 (by with_reducible assumption)); (case h1 => exact fm_1 (by with_reducible assumption) (by with_reducible assumption)); (case hs => with_unfolding_all rfl); k_whole)))
local macro_rules | `(tactic| walk_at "subscriptTail") => `(tactic| (k_here; (with_reducible show wpAny _ _ (subscriptTail _ _ (Value.ref _) (Value.int _ _)) _ _ _); k_dflt (refine' form_item ?hP ?hp ?hG ?N ?hm ?hq ?hk (stop_mk ?_) ?hs ?hg; (case hP => with_reducible assumption); (case hp => with_reducible assumption); (case hG => with_reducible assumption); (case N => k_asm); (case hm => k_mem); (case hk => with_reducible assumption); (case hq => with_reducible assumption); (case hs => with_unfolding_all rfl); (case hg => (intro _; with_unfolding_all rfl)); k_whole)))
local macro_rules | `(tactic| walk_at "compareOp NotEq ref ref") => `(tactic| (k_here; k_dflt (refine' ne_lists ?N ?m1 ?m2 ?i1 ?i2 ?eqns ?hu ?_; (case N => k_asm); (case m1 => k_mem); (case m2 => k_mem); (case i1 => assumption); (case i2 => assumption); (case eqns => ((rename (∀ l1 l2 : List Int, List.Perm l1 _ → _) => hsX); exact hsX _ _ (by assumption) (by assumption) (by assumption) (by assumption))); (case hu => k_units); k_whole)))
local macro_rules | `(tactic| walk_at "call builtin:sorted") => `(tactic| (k_here; (with_reducible show wpAny _ _ (call (Value.builtin "sorted") [Value.ref _]) _ _ _); k_dflt (first
  | (refine' sorted_forms ?hh ?F ?N ?hp ?hd ?lo ?h64 ?_; (case F => k_asm); (case N => k_asm); (case hp => exact List.Mem.head _); (case hh => rfl); (case hd => assumption); (case lo => assumption); (case h64 => assumption); k_whole)
  | (refine' sorted_nums ?F ?N ?hp ?hi ?h64 ?_; (case F => k_asm); (case N => k_asm); (case hp => k_mem); (case hi => assumption); (case h64 => assumption); k_whole)); (first | intro D' out' ns' c' h' tk' F' N' l1 hI' hPe' hPw' | intro D' out' ns' c' h' F' N' l1 hI' hPe' hPw'); (try k_lt l1)))
local macro_rules | `(tactic| walk_at "call ref") => `(tactic| (k_here; (with_reducible show wpAny _ _ (call (Value.ref 92) [Value.int _ _, Value.ref _]) _ _ _); k_dflt (refine' dec_l ?C ?hm1 ?hm2 ?hn ?hp ?hq ?i2 ?i1 ?hd (stop_mk ?hretD) (stop_mk ?hexcD); (case C => walk_at "bb cx"); (case hm1 => k_mem); (case hm2 => k_mem); (case hn => first | assumption | exact rng_fmod (by assumption)); (case hp => assumption); (case hq => assumption); (case i2 => assumption); (case i1 => assumption); (case hd => assumption); k_whole)))
local macro_rules | `(tactic| walk_at "setItem ref int") => `(tactic| (k_here; k_dflt (refine' kda_set (knd := PySem.intKind _ _) ?F ?N ?U ?hd (intKind_is _ _ _ _) ?hz ?_; (case F => k_asm); (case N => k_asm); (case U => exact UpdF.tail (by assumption) (UpdF.tail (by assumption) (UpdF.head (by assumption)))); (case hd => assumption); (case hz => assumption); k_whole); intro h' o' F' N' hd'))
local macro_rules | `(tactic| walk_at "subscriptTail Name Slice ref ref") => `(tactic| (k_here; k_dflt (refine' kmk_slice_ints ?F ?N ?l ?p ?q ?i ?m ?c ?_ ?s ?t ?z; (case F => k_asm); (case N => k_asm); (case l => kmk_list); (case p => kmk_part); (case q => kmk_part); (case i => l_ints); (case m => exact kmk_from (by l_ints) (Int.natCast_nonneg _)); (case c => exact List.length_drop ..); (case s => with_unfolding_all rfl); (case t => kmk_pure); (case z => kmk_size)); intro D' ws' h' F' N' l1 hI' hC' hL'; (try k_lt l1); (try k_sweep)))
local macro_rules | `(tactic| walk_at "subscriptTail") => `(tactic| (k_here; (with_reducible show wpAny _ _ (subscriptTail _ _ (Value.ref 262) (Value.int _ _)) _ _ _); (try k_fmods); (with_unfolding_all (refine' primes_item ?F ?X ?l ?i ?k3 ?k4 (stop_mk ?primeP); (case F => k_asm); (case X => k_asm); (case l => k_is); (case i => l_ints); (case k3 => l_idx); (case k4 => l_idx); k_whole))))
local macro_rules | `(tactic| walk_at "pyIter ref") => `(tactic| ((with_reducible show wpAny _ _ (pyIter (Value.ref _)) (fun it s₂ => LoopAtV _ _ _ _ _ _ _ _ _ it s₂) _ _); refine stop_mk ?_))
local macro_rules | `(tactic| walk_at "call ref") => `(tactic| (k_here; (with_reducible rename FormsOk _ _ _ _ _ _ _ => hfX); (with_reducible show wpAny _ _ (call (Value.ref 257) [Value.int _ _, Value.int _ _]) _ _ _); k_dflt (refine' new_c ?C ?hq ?_; (case C => walk_at "bb cx"); (case hq => k_asm); k_whole); intro y' dy' h1' h2' t1' t2' tp' tn' v' h' tk' hv' hr' F' N'; (try dsimp only [PySem.W.CmpBack]); (try k_sweep)))
local macro_rules | `(tactic| walk_at "subscriptTail") => `(tactic| (k_here; (with_reducible show wpAny _ _ (subscriptTail _ _ (Value.ref _) (Value.int _ _)) _ _ _); (with_reducible rename FormsOk _ _ _ _ _ _ _ => hfX); k_dflt (refine' item_tupleT ?t ?a ?b ?c ?d ?_; (case t => (refine' News.isTup ?n ?m; (case n => k_asm); (case m => walk_at "bb mem"))); (case a => decide); (case b => decide); (case c => rfl); (case d => rfl); k_whole)))
local macro_rules | `(tactic| walk_at "exec For Name Name cons nil") => `(tactic| (k_here; (rename Fr _ _ _ _ => lF'); (with_unfolding_all refine' For_invVF lF' ?k1 ?k2 ?_; (case k1 => exact rfl); (case k2 => exact rfl); k_whole)))
local macro_rules | `(tactic| walk_at "bb in") => `(tactic| (refine' InstAt.of_news ?n ?m1 ?m2; (case n => k_asm); (case m1 => walk_at "bb mem"); (case m2 => walk_at "bb mem")))
local macro_rules | `(tactic| walk_at "bb fq") => `(tactic| (exact ⟨_, _, _, _, _, _, _, by walk_at "bb in"⟩))
local macro_rules | `(tactic| walk_at "bb pt") => `(tactic| (first | (refine' ispt_of ?t (isfq_of ?a) (isfq_of ?b) (isfq_of ?c); (case t => (refine' News.isTup ?n ?m; (case n => k_asm); (case m => walk_at "bb mem"))); (case a => walk_at "bb in"); (case b => walk_at "bb in"); (case c => walk_at "bb in")) | assumption | fail "bb pt"))
local macro_rules | `(tactic| walk_at "call ref") => `(tactic| (k_here; (with_reducible show wpAny _ _ (call (Value.ref 127) [Value.ref _, Value.ref _]) _ _ _); k_dflt (refine' mul_c ?C ?I ?J ?ha ?hq ?_; (case C => walk_at "bb cx"); (case I => walk_at "bb fq"); (case J => walk_at "bb fq"); (case ha => k_asm); (case hq => k_asm); k_whole); intro y' dy' h1' h2' t1' t2' tp' tn' v' h' tk' hv' hr' F' N'; (try dsimp only [PySem.W.CmpBack]); (try k_sweep)))
local macro_rules | `(tactic| walk_at "call ref") => `(tactic| (k_here; (with_reducible show wpAny _ _ (call (Value.ref 42) [Value.ref _, Value.ref _]) _ _ _); k_dflt (refine' add_c ?C ?I ?J ?ha ?hb ?hc ?h2a ?h2b ?h2c ?hp ?hq ?_; (case C => walk_at "bb cx"); (case I => walk_at "bb pt"); (case J => walk_at "bb pt"); (case ha => k_asm); (case hb => k_asm); (case hc => k_asm); (case h2a => k_asm); (case h2b => k_asm); (case h2c => k_asm); (case hp => k_asm); (case hq => k_asm); k_whole); intro r' a' b' c' h' tk' he ha hb hc hip F' N'; (try dsimp only [PySem.W.CmpBack]); (try k_sweep)))
local macro_rules | `(tactic| walk_at "call ref") => `(tactic| (k_here; (with_reducible show wpAny _ _ (call (Value.ref 85) [Value.ref _, Value.ref _]) _ _ _); k_dflt (refine' compress_c ?C ?I ?J ?ha ?hb ?hc ?hp ?hq ?_; (case C => walk_at "bb cx"); (case I => walk_at "bb pt"); (case J => walk_at "bb fq"); (case ha => k_asm); (case hb => k_asm); (case hc => k_asm); (case hp => k_asm); (case hq => k_asm); k_whole); intro v' t' h' tk' hv' F' N'; (try dsimp only [PySem.W.CmpBack]); (try k_sweep)))
local macro_rules | `(tactic| walk_at "call ref") => `(tactic| (k_here; (first | (with_reducible show wpAny _ _ (call (Value.ref 63) [Value.ref _]) _ _ _) | (with_reducible show wpAny _ _ (call (Value.ref 63) ([Value.ref _] ++ [])) _ _ _)); k_dflt (refine' neg2_c ?C ?I ?ha ?hb ?hc ?hq ?_; (case C => walk_at "bb cx"); (case I => walk_at "bb pt"); (case ha => k_asm); (case hb => k_asm); (case hc => k_asm); (case hq => k_asm); k_whole); intro r' a' b' c' h' tk' he ha hb hc hip F' N'; (try dsimp only [PySem.W.CmpBack]); (try k_sweep)))
local macro_rules | `(tactic| walk_at "call ref") => `(tactic| (k_here; (with_reducible show wpAny _ _ (call (Value.ref 269) [_, _, Value.int _ _]) _ _ _); k_dflt (refine' sum_l ?C ?I0 ?I1 ?ho ?ho2 ?hp ?hq ?_; (case C => walk_at "bb cx"); (case I0 => (first | assumption | (refine' LpIn.is ?n (LpIn.mono ?m ?q); (case n => assumption); (case m => assumption); (case q => (intro q hq; walk_at "bb tl"))) | exact islp_pair (News.isTup (by k_asm) (by k_mem)) | exact (rfl : IsLP _ Value.none none) | fail "lp")); (case I1 => (first | assumption | (refine' LpIn.is ?n (LpIn.mono ?m ?q); (case n => assumption); (case m => assumption); (case q => (intro q hq; walk_at "bb tl"))) | exact islp_pair (News.isTup (by k_asm) (by k_mem)) | exact (rfl : IsLP _ Value.none none) | fail "lp")); (case ho => assumption); (case ho2 => assumption); (case hp => assumption); (case hq => assumption); k_whole); intro v' h' tk' hi' hlo' F' N'; (try dsimp only [PySem.W.CmpBack]); (try k_sweep)))
local macro_rules | `(tactic| walk_at "call ref") => `(tactic| (k_here; (first | (with_reducible show wpAny _ _ (call (Value.ref 28) [Value.ref _]) _ _ _) | (with_reducible show wpAny _ _ (call (Value.ref 28) ([Value.ref _] ++ [])) _ _ _)); k_dflt (first
  | (refine' isinf_t ?C ?J ?hc ?hq ?h0 ?_; (case C => walk_at "bb cx"); (case J => walk_at "bb pt"); (case hc => k_asm); (case hq => k_asm); (case h0 => exact rfl); k_whole)
  | (refine' isinf_f ?C ?J ?hc ?hq ?h0 ?_; (case C => walk_at "bb cx"); (case J => walk_at "bb pt"); (case hc => k_asm); (case hq => k_asm); (case h0 => exact rfl); k_whole)); intro h' tk' F' N'; (try k_sweep)))
local macro_rules | `(tactic| walk_at "call ref") => `(tactic| (k_here; (with_reducible show wpAny _ _ (call (Value.ref 49) [Value.ref _, Value.ref _]) _ _ _); k_dflt (refine' eqp_t ?C ?I ?J ?ha ?hb ?hc ?h2a ?h2b ?h2c ?hq ?e1 ?e2 ?e3 ?_; (case C => walk_at "bb cx"); (case I => walk_at "bb pt"); (case J => walk_at "bb pt"); (case ha => k_asm); (case hb => k_asm); (case hc => k_asm); (case h2a => k_asm); (case h2b => k_asm); (case h2c => k_asm); (case hq => k_asm); (case e1 => exact self_mod (by assumption) (by assumption)); (case e2 => exact self_mod (by assumption) (by assumption)); (case e3 => exact one_self (by assumption) (by assumption)); k_whole); intro h' tk' F' N'; (try k_sweep)))
local macro_rules | `(tactic| walk_at "compareOp NotEq int int") => `(tactic| (k_here; (with_reducible rename FormsOk _ _ _ _ _ _ _ => hfX); k_dflt (refine' int_ne_f (stop_mk ?_) ?_; k_whole)))
local macro_rules | `(tactic| walk_at "compareOp Eq int int") => `(tactic| (k_here; (with_reducible rename FormsOk _ _ _ _ _ _ _ => hfX); k_dflt (refine' int_eq_t (stop_mk ?_) ?_; k_whole)))
local macro_rules | `(tactic| walk_at "call ref") => `(tactic| (k_here; (with_reducible show wpAny _ _ (call (Value.ref 276) [_, Value.int _ _]) _ _ _); k_dflt (refine' num_c ?C ?I0 ?ho ?_; (case C => walk_at "bb cx"); (case I0 => (first | assumption | (refine' LpIn.is ?n (LpIn.mono ?m ?q); (case n => assumption); (case m => assumption); (case q => (intro q hq; walk_at "bb tl"))) | exact islp_pair (News.isTup (by k_asm) (by k_mem)) | exact (rfl : IsLP _ Value.none none) | fail "lp")); (case ho => assumption); k_whole); intro v' t' h' tk' hv' F' N'; (try dsimp only [PySem.W.CmpBack]); (try k_sweep)))
local macro_rules | `(tactic| walk_at "call builtin:pow") => `(tactic| (k_here; (with_reducible show wpAny _ _ (call (Value.builtin "pow") [Value.int _ _, Value.int _ _, Value.int _ _]) _ _ _); k_dflt (refine' pow_c ?hm ?he ?_; (case hm => assumption); (case he => first | decide | omega | exact ex2 (by assumption) | exact ex3 (by assumption) | exact ex4 (by assumption)); k_whole); intro r' hr' hrr'))
local macro_rules | `(tactic| walk_at "bb mem") => `(tactic| first | with_reducible exact List.mem_cons_self | (with_reducible refine List.mem_cons_of_mem _ ?_; walk_at "bb mem") | ((fail_if_success (with_reducible refine List.mem_cons_of_mem _ ?_)); with_reducible assumption) | fail "bb mem")
local macro_rules | `(tactic| k_mem) => `(tactic| walk_at "bb mem")
local macro_rules | `(tactic| walk_at "exec While BoolOp") => `(tactic| (k_here; (rename Fr _ _ _ _ => lF'); (rename News _ _ _ _ => lN'); (k_dflt (refine' whl_b ?hE ?hq ?hp ?hb lF' lN' ?hk (stop_mk ?turnB) (stop_mk ?doneB); (case hk => with_unfolding_all rfl); (case hE => first | passes_own | with_unfolding_all passes_own); (case hq => assumption); (case hp => assumption); (case hb => exact rng_fmod (by assumption)); k_whole)); (all_goals clear lF' lN')))
local macro_rules | `(tactic| walk_at "WhlIf") => `(tactic| (refine whlif_dec ?_ ?_ <;> intro _))
local macro_rules | `(tactic| walk_at "WhEnd") => `(tactic| (dsimp only [WhEnd]))
local macro_rules | `(tactic| walk_at "FPost") => `(tactic| (dsimp only [FPost]))
local macro_rules | `(tactic| walk_at "binaryOp Mult int int") => `(tactic| (refine mul_int ?_ (by exact mulok_r (by assumption) (by assumption))))
set_option maxHeartbeats 0 in
theorem law_try : PySem.Challenge.rw_bb0060_01.Holds := bb_hd (by
  k_go0
  k_steps
  refine stop_out ?_
  intro p tp hp hq
  k_steps
  case turnB =>
    refine stop_out ?_
    intro k b t h' tk' hrb hlb F' N'
    dsimp only [kstB] at F'
    k_steps
    all_goals subst_vars
    all_goals first
      | (obtain ⟨k', hk1, hk2⟩ := loopB_step hlb (by first | exact Or.inl (by assumption) | exact Or.inr (by assumption))
         refine kend (_, _) (by assumption) (by assumption) (fun _ h => h) (by kst_all) ?_ ⟨k', hk1, rng_fmod hq, hk2⟩
         intro z h2 h3
         simp only [List.forall_mem_cons, List.not_mem_nil, false_implies, implies_true, and_true, ne_eq] at h2
         simp [h2])
      | exact ⟨_, _, _, _, rfl, F', N', hrb, by assumption, by assumption⟩
  case doneB =>
    refine stop_out ?_
    intro b tb h' tk' hG F' N'
    dsimp only [kstB] at F'
    have hrb := hG.1
    k_steps
    (rename IsRange _ _ _ _ _ _ _ _ => rgX)
    (rename Fr _ _ _ _ => lF')
    (rename News _ _ _ _ => lN')
    refine stop_out ?_
    refine' pts_loop (b := b) [Str.ofString "y"] ?hh ?hp rgX lF' lN' ?m1 ?m2 ?m3 ?n2 ?n3 ?turnP ?doneP
    case hh => rfl
    case hp => assumption
    case m1 => exact List.Mem.head _
    case m2 => exact List.Mem.tail _ (List.Mem.head _)
    case m3 => exact (List.Mem.tail _ (List.Mem.tail _ (List.Mem.tail _ (List.Mem.tail _ (List.Mem.tail _ (List.Mem.tail _ (List.Mem.head _)))))))
    case n2 => k_ne
    case n3 => k_ne
    case turnP =>
      clear lF' lN'
      intro I i k t its cnt tl u h tk oI hi hk hkb hP hIp hofp hofI F' N'
      have hsz := hP.size
      k_steps
      all_goals first
        | (refine fend (_, _, _ :: _ :: tl) (by assumption) (by assumption) (.tail _ (.tail _ (.head _))) pts_sub (pts_off hofI (by omega) (by omega)) (fun _ h => nomatch h) ?_ (pts_yes hP hk (by assumption) (by assumption) hq (by omega) (by omega))
           intro z h1 h2 h3
           simp only [List.contains_cons, List.contains_nil, Bool.or_false, Bool.or_eq_false_iff, beq_eq_false_iff_ne, ne_eq] at h3
           simp [h1, h3])
        | (refine fend (_, _, tl) (by assumption) (by assumption) (.head _) (fun q hq => .tail _ hq) hofI (fun _ h => nomatch h) ?_ (pts_no hP hk (by assumption) (by assumption) hq)
           intro z h1 h2 h3
           simp only [List.contains_cons, List.contains_nil, Bool.or_false, Bool.or_eq_false_iff, beq_eq_false_iff_ne, ne_eq] at h3
           simp [h1, h3])
    case doneP =>
      clear lF' lN'
      intro its cnt tl u h tk hP F' N'
      k_steps
      have hlp := pts_ok hp hG
      have hlen : (ptsF p b (p - 1).toNat).length = its.size := by rw [← hP.pts.length, Array.length_toList]
      have hsz : its.size ≤ 37 := by have h1 := hP.size; have h2 : (p - 1).toNat ≤ 18 := by omega
                                     omega
      refine LCg.CompSrc.ledger (by rfl) F' N' (.head _) (by rw [sizeLine_eq]; omega) ?_
      intro g
      refine comp_nums (os := ptsF p b (p - 1).toNat) (numF p) (hP.pts.mono (fun q hq => .tail _ (.tail _ (.tail _ hq)))) ?turnN ?finN
      case turnN =>
        clear F' N'
        intro v o I oI C oC D m₂ ys h' tk' E' ho hvo hC hx F' N' off ne
        have hlo := hlp o ho
        have hvo' := hvo.mono (fun q hq => List.Mem.tail (I, oI) (List.Mem.tail (C, oC) (List.Mem.tail (D, LCg.lst ys) hq)))
        k_steps
        subst_vars
        exact kcf_el rfl rfl rfl
      case finN =>
        clear F' N'
        intro ys hys
        have hpts0 := hP.pts
        k_steps
        refine stop_out ?_
        (rename Fr _ _ _ _ => lF')
        (rename News _ _ _ _ => lN')
        (rename IntsAre _ (_ ++ _) => hxs)
        refine' forms_start (p := p) (b := b) [Str.ofString "high", Str.ofString "number"] ?fh hxs lF' lN' ?fX ?fl ?fd ?turnF ?doneF
        case fh => rfl
        case fX => omega
        case fl => assumption
        case fd => assumption
        case turnF =>
          clear lF' lN'
          intro I i k t o kvs tl u h tk oI hit hik hP hoI F' N'
          k_steps
          refine stop_out ?_
          (rename IsRange _ _ 0 8 _ _ _ _ => rg8)
          (rename Fr _ _ _ _ => lF')
          (rename News _ _ _ _ => lN')
          refine' forms_in (k₀ := k) [Str.ofString "number"] ?gh rg8 lF' lN' hP hoI ?turnG ?doneG
          case gh => rfl
          case turnG =>
            clear lF' lN'
            intro I2 j hi t2 o kvs tl u2 h tk oI2 hit2 hj hhi hhb hP ho1 ho2 F' N'
            simp only [List.cons_append, List.nil_append] at N'
            have hdct := hP.dict
            have hkl : kvs.length ≤ sizeLine := finv_size hP hj (by have h9 := hxs.length; simp only [List.length_append, List.length_map, rangeKs_length, List.length_cons, List.length_nil]; omega)
            have f2 : I2 ≠ _ := fun e => ho2 _ (.tail _ (.head _)) e.symm
            have f1 : I ≠ _ := fun e => ho1 _ (.head _) e.symm
            k_steps
            case hretD =>
              refine stop_out ?_
              intro D tl7 a b' c h' tk' e r1 r2 r3 ip o1 o2 o3 F' N'
              dsimp only
              have f3 : ∀ q ∈ tl7 ++ _, q.1 ≠ _ := fun q hq => (List.mem_append.mp hq).elim (o3 q) (hP.off q)
              k_steps
              (rename Obj.IsDictOf _ _ (stored _ _ _) => hst)
              refine fend_yes hP (by assumption) (by assumption) hst e hrb hhi r1 r2 r3 ip o1 o2 o3 ho1 ho2 ?_
              intro z h1 h3
              simp only [List.contains_cons, List.contains_nil, Bool.or_false, Bool.or_eq_false_iff, beq_eq_false_iff_ne, ne_eq] at h3
              simp [h1, h3]
            case hexcD =>
              refine stop_out ?_
              intro e ee g h' tk' R' F' U'
              dsimp only
              k_dflt (refine' caught_X ?cA F' U' R' ?cX ?cT ?cN ?cK ?cE ?ck ?cx; (case cA => rfl); (case cX => k_asm); (case cT => k_asm); (case cN => k_is); (case ck => rfl); (case cx => rfl); (case cE => first | passes_own | with_unfolding_all passes_own); k_whole)
              intro h2 F2 N2
              k_steps
              refine fend_no hP F2 N2 e hrb hhi ho1 ho2 ?_
              intro z h1 h3
              simp only [List.contains_cons, List.contains_nil, Bool.or_false, Bool.or_eq_false_iff, beq_eq_false_iff_ne, ne_eq] at h3
              simp [h1, h3]
          case doneG =>
            clear lF' lN'
            intro o kvs tl u2 h tk hP ho1 F' N'
            simp only [List.cons_append, List.nil_append] at N'
            k_steps
            refine fend (_, _) (by assumption) (by assumption) (.head _) (fun q hq => .tail _ hq) ho1 (fun _ h => nomatch h) ?_ ⟨kvs, (keysOf_succ hik) ▸ hP⟩
            intro z h1 h2 h3
            simp only [List.contains_cons, List.contains_nil, Bool.or_false, Bool.or_eq_false_iff, beq_eq_false_iff_ne, ne_eq] at h3
            simp [h1, h3]
        case doneF =>
          clear lF' lN'
          intro o kvs tl u h tk hP F' N'
          have hkp := forms_keys hp hG hP
          have hkl : kvs.length < 64 := by
            have h1 := hkp.length_eq
            rw [List.length_map, List.length_map] at h1
            have h2 := hlen
            omega
          have hn64 : (numsF p b).length < 64 := by
            rw [List.length_map]
            have h2 := hlen
            omega
          have hsz0 : 0 < its.size := by
            have h1 := ptsF_pos p b (p - 1).toNat
            omega
          have hpts := hpts0.mono hP.sub
          have hsort : ∀ l1 l2 : List Int, l1.Perm (kvs.map (·.1)) → l1.Pairwise (· ≤ ·) → l2.Perm (numsF p b) → l2.Pairwise (· ≤ ·) → l1 = l2 := fun l1 l2 a1 a2 b1 b2 => lks_uniq (a1.trans (hkp.trans b1.symm)) a2 b2
          have hdct := hP.dict
          have hfo := forms_ok hP hkp
          k_steps
          case drawnP =>
            refine stop_out ?_
            intro dv od hod hdv
            have hlod := hlp od hod
            (repeat (rename (@LT.lt Nat _ _ _ ∧ _) => zz; clear zz))
            (with_reducible rename Fr _ _ _ _ => lF')
            (with_reducible rename News _ _ _ _ => lN')
            revert lF' lN'
            (repeat (with_reducible rename Fr _ _ _ _ => zz; clear zz))
            (repeat (with_reducible rename News _ _ _ _ => zz; clear zz))
            intro F' N'
            k_steps
            · refine stop_out ?_
              intro FD fa fb fc hfe fr1 fr2 fr3 hfp
              obtain ⟨fx, fy, fz, hft, ⟨fd1, fh1, fg1, ft1, fu1, fv1, fw1, hfa1, hfb1⟩, ⟨fd2, fh2, fg2, ft2, fu2, fv2, fw2, hfa2, hfb2⟩, ⟨fd3, fh3, fg3, ft3, fu3, fv3, fw3, hfa3, hfb3⟩⟩ := hfp
              (rename (_ = (1 + _) % p) => hze)
              have hzz := zn_ok' hp hze
              k_steps
              refine stop_out ?_
              (rename Fr _ _ _ _ => lF')
              (rename News _ _ _ _ => lN')
              refine' for_pts (vs := its) (k := cnt) [Str.ofString "one"] ?gh2 ?hl2 lF' lN' ?turnQ ?doneQ
              case gh2 => rfl
              case hl2 => k_mem
              case turnQ =>
                clear lF' lN'
                intro I i v u2 h tk oI hi hv hoQ
                (repeat (with_reducible rename Fr _ _ _ _ => zz; clear zz))
                (repeat (with_reducible rename News _ _ _ _ => zz; clear zz))
                intro F' N'
                obtain ⟨o2, ho2, hvo2⟩ := hpts.get (i := i) (v := v) (by rw [Array.getElem?_toList]; exact hv)
                have hoo := List.mem_of_getElem? ho2
                have hlo2 := hlp o2 hoo
                rcases o2 with _ | ⟨px, py⟩
                · have hvn : v = .none := hvo2
                  subst hvn
                  k_steps
                  · refine stop_out ?_
                    intro D2 a2 b2 c2 he2 rr1 rr2 rr3 hp2
                    obtain ⟨rfl, rfl, rfl⟩ := embF_none he2
                    obtain ⟨gx, gy, gz, hgt, ⟨gd1, gh1, gg1, gt1, gu1, gv1, gw1, hga1, hgb1⟩, ⟨gd2, gh2, gg2, gt2, gu2, gv2, gw2, hga2, hgb2⟩, ⟨gd3, gh3, gg3, gt3, gu3, gv3, gw3, hga3, hgb3⟩⟩ := hp2
                    k_steps
                    · refine stop_out ?_
                      (rename (_ = addF p _ _ _ _ _ _) => q3)
                      (rename (_ = cmpF p _ _ _) => q1)
                      (rename (_ = numF p (sumF p _ _)) => q2)
                      rw [q1, q2]
                      exact add_num hp hG hoo hod hzz he2 hfe (by assumption) (by assumption) (by assumption) q3
                    · refine fend_pts (by assumption) (by assumption) ?_ ?_ hoQ ?_
                      · k_mem
                      · intro q hq
                        (repeat (first | with_reducible exact hq | refine List.mem_cons_of_mem _ ?_))
                      · intro z h1 h3
                        simp only [List.contains_cons, List.contains_nil, Bool.or_false, Bool.or_eq_false_iff, beq_eq_false_iff_ne, ne_eq] at h3
                        simp [h1, h3]
                · have hvo3 := hvo2
                  obtain ⟨pt, tx, ty, hve, hpm⟩ := hvo2
                  subst hve
                  have hlo3 := hlo2
                  obtain ⟨hpx, hpy⟩ := hlo3
                  k_steps
                  · refine stop_out ?_
                    intro D2 a2 b2 c2 he2 rr1 rr2 rr3 hp2
                    obtain ⟨rfl, rfl, rfl⟩ := embF_some he2
                    obtain ⟨gx, gy, gz, hgt, ⟨gd1, gh1, gg1, gt1, gu1, gv1, gw1, hga1, hgb1⟩, ⟨gd2, gh2, gg2, gt2, gu2, gv2, gw2, hga2, hgb2⟩, ⟨gd3, gh3, gg3, gt3, gu3, gv3, gw3, hga3, hgb3⟩⟩ := hp2
                    k_steps
                    · refine stop_out ?_
                      (rename (_ = addF p _ _ _ _ _ _) => q3)
                      (rename (_ = cmpF p _ _ _) => q1)
                      (rename (_ = numF p (sumF p _ _)) => q2)
                      rw [q1, q2]
                      exact add_num hp hG hoo hod hzz he2 hfe (by assumption) (by assumption) (by assumption) q3
                    · refine fend_pts (by assumption) (by assumption) ?_ ?_ hoQ ?_
                      · k_mem
                      · intro q hq
                        (repeat (first | with_reducible exact hq | refine List.mem_cons_of_mem _ ?_))
                      · intro z h1 h3
                        simp only [List.contains_cons, List.contains_nil, Bool.or_false, Bool.or_eq_false_iff, beq_eq_false_iff_ne, ne_eq] at h3
                        simp [h1, h3]
              case doneQ =>
                clear lF' lN'
                intro u2 h tk
                (repeat (with_reducible rename Fr _ _ _ _ => zz; clear zz))
                (repeat (with_reducible rename News _ _ _ _ => zz; clear zz))
                intro F' N'
                rcases od with _ | ⟨dx, dy⟩
                · have hvn : dv = .none := hdv
                  subst hvn
                  k_steps
                  · refine stop_out ?_
                    (rename ((_, _, _) = ((_ : Int), (_ : Int), (_ : Int))) => q3)
                    (rename (_ = cmpF p _ _ _) => q1)
                    (rename (_ = numF p _) => q2)
                    rw [q1, q2]
                    exact neg_num hp hG hod hzz hfe (by assumption) (by assumption) (by assumption) q3
                · have hdv3 := hdv
                  obtain ⟨dt, tx, ty, hve, hdm⟩ := hdv
                  subst hve
                  have hlo3 := hlod
                  obtain ⟨hdx, hdy⟩ := hlo3
                  have hlo4 : LPok p (some (dx, p - dy)) := opp_ok hp hG _ hod
                  k_steps
                  · refine stop_out ?_
                    (rename ((_, _, _) = ((_ : Int), (_ : Int), (_ : Int))) => q3)
                    (rename (_ = cmpF p _ _ _) => q1)
                    (rename (_ = numF p _) => q2)
                    rw [q1, q2]
                    exact neg_num hp hG hod hzz hfe (by assumption) (by assumption) (by assumption) q3)
end Bb
theorem PySem.Challenge.cw_bb0060_01_holds : PySem.Challenge.rw_bb0060_01.Holds := by
  exact Bb.law_try
