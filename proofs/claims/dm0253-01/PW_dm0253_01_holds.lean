import PyProof.Rows.All
import Wide.All
import OpenK.AllK
import Wide.FinOn
import PySem.Challenge.RW_dm0253_01
set_option Elab.async false

namespace Mine
/- plain law: generalized integers; no program in sight -/
def thr (j bias : Int) : Int := if 36 * (j + 1) - bias < 1 then 1 else if 36 * (j + 1) - bias > 26 then 26 else 36 * (j + 1) - bias
theorem thr_lo (j b : Int) : 1 ≤ thr j b := by unfold thr; omega
theorem thr_hi (j b : Int) : thr j b ≤ 26 := by unfold thr; omega
/-- the weight of place n -/
def wt (b : Int) : Nat → Int
  | 0 => 1
  | n + 1 => wt b n * (36 - thr n b)
/-- what the first n digits read as -/
def pv (b : Int) (ds : List Int) : Nat → Int
  | 0 => 0
  | n + 1 => pv b ds n + ds.getD n 0 * wt b n
/-- a whole number: every digit but the last at its threshold or above, the last below it -/
structure Good (b : Int) (ds : List Int) : Prop where
  pos : 0 < ds.length
  rng : ∀ i, i < ds.length → 0 ≤ ds.getD i 0 ∧ ds.getD i 0 < 36
  mid : ∀ i, i + 1 < ds.length → thr i b ≤ ds.getD i 0
  last : ds.getD (ds.length - 1) 0 < thr ((ds.length - 1 : Nat) : Int) b

theorem Good.is_last {b : Int} {ds : List Int} (g : Good b ds) {i : Nat} (hi : i < ds.length) (h : ds.getD i 0 < thr i b) : i + 1 = ds.length := by
  by_cases h1 : i + 1 < ds.length
  · have := g.mid i h1; omega
  · omega
theorem Good.not_last {b : Int} {ds : List Int} (g : Good b ds) {i : Nat} (hi : i < ds.length) (h : thr i b ≤ ds.getD i 0) : i + 1 < ds.length := by
  by_cases h1 : i + 1 < ds.length
  · exact h1
  · have e : i = ds.length - 1 := by omega
    have := g.last
    subst e
    omega
theorem pv_congr {b : Int} {ds es : List Int} : ∀ {n : Nat}, (∀ i, i < n → ds.getD i 0 = es.getD i 0) → pv b ds n = pv b es n
  | 0, _ => rfl
  | n + 1, h => by
    show pv b ds n + ds.getD n 0 * wt b n = pv b es n + es.getD n 0 * wt b n
    rw [pv_congr fun i hi => h i (by omega), h n (by omega)]

/-- the first k digits, all 35, go back to their thresholds, the next goes one up -/
theorem pv_back {b : Int} {ds es : List Int} : ∀ {k : Nat}, (∀ i, i < k → ds.getD i 0 = 35) → (∀ i, i < k → es.getD i 0 = thr i b) → pv b ds k - pv b es k = wt b k - 1
  | 0, _, _ => by simp [pv, wt]
  | k + 1, h1, h2 => by
    have ih := pv_back (b := b) (k := k) (fun i hi => h1 i (by omega)) (fun i hi => h2 i (by omega))
    simp only [pv, wt]
    rw [h1 k (by omega), h2 k (by omega), Int.mul_comm (wt b k), Int.sub_mul]
    omega
theorem pv_next {b : Int} {ds es : List Int} {k : Nat} (h1 : ∀ i, i < k → ds.getD i 0 = 35) (h2 : ∀ i, i < k → es.getD i 0 = thr i b) (h3 : es.getD k 0 = ds.getD k 0 + 1) :
    ∀ {n : Nat}, k < n → (∀ i, k < i → i < n → es.getD i 0 = ds.getD i 0) → pv b es n = pv b ds n + 1
  | 0, hk, _ => absurd hk (Nat.not_lt_zero _)
  | n + 1, hk, h4 => by
    by_cases e : k = n
    · subst e
      have hb := pv_back (b := b) h1 h2
      simp only [pv]
      rw [h3, Int.add_mul, Int.one_mul]
      omega
    · have ih := pv_next h1 h2 h3 (n := n) (by omega) (fun i hi hn => h4 i hi (by omega))
      simp only [pv]
      rw [ih, h4 n (by omega) (by omega)]
      omega
/-- what holds between the turns of the counter's loop: the digits ds, as they stand now cs, the place k -/
structure NextInv (b : Int) (ds cs : List Int) (k : Int) : Prop where
  k0 : 0 ≤ k
  kl : k.toNat < ds.length
  len : cs.length = ds.length
  old : ∀ i, i < k.toNat → ds.getD i 0 = 35
  low : ∀ i, i < k.toNat → cs.getD i 0 = thr i b
  rest : ∀ i, k.toNat ≤ i → cs.getD i 0 = ds.getD i 0
theorem NextInv.start {b : Int} {ds : List Int} (g : Good b ds) : NextInv b ds ds 0 := ⟨Int.le_refl _, g.pos, rfl, fun _ h => absurd h (Nat.not_lt_zero _), fun _ h => absurd h (Nat.not_lt_zero _), fun _ _ => rfl⟩
theorem NextInv.all {b : Int} {ds cs : List Int} {k : Int} (x : NextInv b ds cs k) (h : ds.length < 500) : 0 ≤ k ∧ k < (cs.length : Int) ∧ cs.length < 500 ∧ NextInv b ds cs k :=
  ⟨x.k0, by have := x.k0; have := x.kl; have := x.len; omega, by have := x.len; omega, x⟩
theorem getD_set_self {l : List Int} {i : Nat} {x : Int} (h : i < l.length) : (l.set i x).getD i 0 = x := by simp [List.getD, h]
theorem getD_set_ne {l : List Int} {i j : Nat} {x : Int} (h : i ≠ j) : (l.set i x).getD j 0 = l.getD j 0 := by simp [List.getD, List.getElem?_set_ne h]
theorem NextInv.step {b : Int} {ds cs : List Int} {k : Int} (x : NextInv b ds cs k) (g : Good b ds) (h : cs.getD k.toNat 0 = 35) : NextInv b ds (cs.set k.toNat (thr k b)) (k + 1) := by
  have h0 := x.k0
  have ek : ((k.toNat : Nat) : Int) = k := by omega
  have en : (k + 1).toNat = k.toNat + 1 := by omega
  have hd : ds.getD k.toNat 0 = 35 := by rw [← x.rest _ (Nat.le_refl _)]; exact h
  have hl := x.len
  have hk := x.kl
  refine ⟨by omega, ?_, by rw [List.length_set, hl], fun i hi => ?_, fun i hi => ?_, fun i hi => ?_⟩
  · rw [en]
    refine g.not_last x.kl ?_
    rw [hd]
    have := thr_hi (k.toNat : Nat) b
    omega
  · rw [en] at hi
    by_cases e : i = k.toNat
    · rw [e]; exact hd
    · exact x.old i (by omega)
  · rw [en] at hi
    by_cases e : i = k.toNat
    · rw [e, getD_set_self (by omega), ek]
    · rw [getD_set_ne (by omega)]; exact x.low i (by omega)
  · rw [en] at hi
    rw [getD_set_ne (by omega)]
    exact x.rest i (by omega)
theorem NextInv.less {b : Int} {ds cs : List Int} {k : Int} (x : NextInv b ds cs k) : ds.length - (k + 1).toNat < ds.length - k.toNat := by
  have := x.k0; have := x.kl; omega

/-- a number that is one more than ds reads as -/
def OneUp (b : Int) (ds es : List Int) : Prop := Good b es ∧ pv b es es.length = pv b ds ds.length + 1 ∧ es.length ≤ ds.length + 1
section
variable {b : Int} {ds cs : List Int} {k : Int}
theorem NextInv.value (x : NextInv b ds cs k) : pv b (cs.set k.toNat (cs.getD k.toNat 0 + 1)) ds.length = pv b ds ds.length + 1 := by
  have hl := x.len
  have hk := x.kl
  refine pv_next (k := k.toNat) x.old (fun i hi => ?_) ?_ x.kl fun i hi _ => ?_
  · rw [getD_set_ne (by omega)]; exact x.low i hi
  · rw [getD_set_self (by omega), x.rest _ (Nat.le_refl _)]
  · rw [getD_set_ne (by omega)]; exact x.rest i (by omega)
theorem NextInv.rng (x : NextInv b ds cs k) (g : Good b ds) (h : cs.getD k.toNat 0 ≠ 35) : ∀ i, i < ds.length → 0 ≤ (cs.set k.toNat (cs.getD k.toNat 0 + 1)).getD i 0 ∧ (cs.set k.toNat (cs.getD k.toNat 0 + 1)).getD i 0 < 36 := by
  intro i hi
  have hl := x.len
  have hk := x.kl
  have hr := g.rng i hi
  by_cases e : i = k.toNat
  · subst e
    rw [getD_set_self (by omega)]
    rw [x.rest _ (Nat.le_refl _)] at h ⊢
    omega
  · rw [getD_set_ne (by omega)]
    by_cases e2 : i < k.toNat
    · rw [x.low i e2]
      have := thr_lo i b
      have := thr_hi i b
      omega
    · rw [x.rest i (by omega)]; exact hr
theorem NextInv.lows (x : NextInv b ds cs k) (g : Good b ds) : ∀ i, i + 1 < ds.length → thr i b ≤ (cs.set k.toNat (cs.getD k.toNat 0 + 1)).getD i 0 := by
  intro i hi
  have hl := x.len
  have hk := x.kl
  have hm := g.mid i hi
  by_cases e : i = k.toNat
  · subst e
    rw [getD_set_self (by omega), x.rest _ (Nat.le_refl _)]
    omega
  · rw [getD_set_ne (by omega)]
    by_cases e2 : i < k.toNat
    · rw [x.low i e2]; exact Int.le_refl _
    · rw [x.rest i (by omega)]; exact hm
/-- the last place met its threshold: a nought behind it -/
theorem NextInv.grow (x : NextInv b ds cs k) (g : Good b ds) (h : cs.getD k.toNat 0 ≠ 35) (e1 : k = ((cs.set k.toNat (cs.getD k.toNat 0 + 1)).length : Int) - 1) (e2 : (cs.set k.toNat (cs.getD k.toNat 0 + 1)).getD k.toNat 0 = thr k b) :
    OneUp b ds (cs.set k.toNat (cs.getD k.toNat 0 + 1) ++ [0]) := by
  have hv := x.value
  have hr := x.rng g h
  have hw := x.lows g
  have hl := x.len
  have hk := x.kl
  have h0 := x.k0
  rw [List.length_set] at e1
  generalize hes : cs.set k.toNat (cs.getD k.toNat 0 + 1) = es at *
  have hel : es.length = ds.length := by rw [← hes, List.length_set]; exact hl
  have inL : ∀ i, i < ds.length → (es ++ [0]).getD i 0 = es.getD i 0 := fun i hi => by simp [List.getD, List.getElem?_append, hel, hi]
  have atL : (es ++ [0]).getD ds.length 0 = 0 := by rw [← hel]; simp [List.getD]
  have lenL : (es ++ [0]).length = ds.length + 1 := by simp [hel]
  refine ⟨⟨by omega, fun i hi => ?_, fun i hi => ?_, ?_⟩, ?_, by omega⟩
  · rw [lenL] at hi
    by_cases e : i = ds.length
    · subst e; rw [atL]; decide
    · rw [inL i (by omega)]; exact hr i (by omega)
  · rw [lenL] at hi
    rw [inL i (by omega)]
    by_cases e : i + 1 = ds.length
    · have e3 : i = k.toNat := by omega
      have e4 : ((k.toNat : Nat) : Int) = k := by omega
      rw [e3, e2, e4]; exact Int.le_refl _
    · exact hw i (by omega)
  · rw [lenL, Nat.add_sub_cancel, atL]
    have := thr_lo (ds.length : Nat) b
    omega
  · rw [lenL, pv, atL, Int.zero_mul, Int.add_zero, pv_congr inL]
    exact hv
/-- the last place stays below its threshold, or the counter stops ahead of it -/
theorem NextInv.stay (x : NextInv b ds cs k) (g : Good b ds) (h : cs.getD k.toNat 0 ≠ 35)
    (e : k ≠ ((cs.set k.toNat (cs.getD k.toNat 0 + 1)).length : Int) - 1 ∨ (cs.set k.toNat (cs.getD k.toNat 0 + 1)).getD k.toNat 0 ≠ thr k b) :
    OneUp b ds (cs.set k.toNat (cs.getD k.toNat 0 + 1)) := by
  have hv := x.value
  have hr := x.rng g h
  have hw := x.lows g
  have hl := x.len
  have hk := x.kl
  have h0 := x.k0
  rw [List.length_set] at e
  have lenL : (cs.set k.toNat (cs.getD k.toNat 0 + 1)).length = ds.length := by rw [List.length_set]; exact hl
  refine ⟨⟨by omega, fun i hi => hr i (by omega), fun i hi => hw i (by omega), ?_⟩, by rw [lenL]; exact hv, by omega⟩
  rw [lenL]
  by_cases e1 : k.toNat = ds.length - 1
  · have e2 : ((k.toNat : Nat) : Int) = k := by omega
    have e3 := g.last
    rcases e with e | e
    · omega
    · rw [getD_set_self (by omega), x.rest _ (Nat.le_refl _)] at e
      rw [← e1, getD_set_self (by omega), x.rest _ (Nat.le_refl _)]
      rw [← e1] at e3
      rw [e2] at e3 ⊢
      omega
  · rw [getD_set_ne e1, x.rest _ (by omega)]
    exact g.last
end
/-- digits as they are built: in range, every one but the last at its threshold or above -/
structure Part (b : Int) (ds : List Int) : Prop where
  rng : ∀ i, i < ds.length → 0 ≤ ds.getD i 0 ∧ ds.getD i 0 < 36
  mid : ∀ i, i + 1 < ds.length → thr i b ≤ ds.getD i 0
theorem Part.nil (b : Int) : Part b [] := ⟨fun _ h => absurd h (Nat.not_lt_zero _), fun _ h => absurd h (Nat.not_lt_zero _)⟩
theorem getD_snoc {ds : List Int} {d : Int} {i : Nat} (h : i < ds.length) : (ds ++ [d]).getD i 0 = ds.getD i 0 := by simp [List.getD, List.getElem?_append, h]
theorem getD_snoc_last {ds : List Int} {d : Int} : (ds ++ [d]).getD ds.length 0 = d := by simp [List.getD]
theorem Part.snoc {b d : Int} {ds : List Int} (p : Part b ds) (h : ds = [] ∨ thr ((ds.length - 1 : Nat) : Int) b ≤ ds.getD (ds.length - 1) 0) (h0 : 0 ≤ d) (h1 : d < 36) : Part b (ds ++ [d]) := by
  have hl : (ds ++ [d]).length = ds.length + 1 := by simp
  refine ⟨fun i hi => ?_, fun i hi => ?_⟩
  · rw [hl] at hi
    by_cases e : i = ds.length
    · subst e; rw [getD_snoc_last]; exact ⟨h0, h1⟩
    · rw [getD_snoc (by omega)]; exact p.rng i (by omega)
  · rw [hl] at hi
    rw [getD_snoc (by omega)]
    by_cases e : i + 1 = ds.length
    · rcases h with h | h
      · subst h; simp at e
      · have e2 : i = ds.length - 1 := by omega
        rw [e2]; exact h
    · exact p.mid i (by omega)
theorem Part.good0 {b : Int} {ds : List Int} (p : Part b ds) (h : ds = [] ∨ thr ((ds.length - 1 : Nat) : Int) b ≤ ds.getD (ds.length - 1) 0) : Good b (ds ++ [0]) := by
  have q := p.snoc h (d := 0) (by decide) (by decide)
  have hl : (ds ++ [0]).length = ds.length + 1 := by simp
  refine ⟨by omega, q.rng, q.mid, ?_⟩
  rw [hl, Nat.add_sub_cancel, getD_snoc_last]
  have := thr_lo (ds.length : Nat) b
  omega
theorem Part.good {b : Int} {ds : List Int} (p : Part b ds) (h1 : ds ≠ []) (h2 : ds.getD (ds.length - 1) 0 < thr ((ds.length - 1 : Nat) : Int) b) : Good b ds :=
  ⟨by cases ds with | nil => exact absurd rfl h1 | cons _ _ => simp, p.rng, p.mid, h2⟩
theorem good_one (b : Int) : Good b [0] := (Part.nil b).good0 (.inl rfl)
theorem Good.all {b : Int} {ds : List Int} (g : Good b ds) : ∀ x ∈ ds, 0 ≤ x ∧ x < 36 := by
  intro x hx
  obtain ⟨i, hi, rfl⟩ := List.mem_iff_getElem.mp hx
  have := g.rng i hi
  simpa [List.getD, hi] using this
end Mine
open PySem PySem.W PySem.Calls PyProof.Rows PySem.Spec
namespace Mine
set_option maxRecDepth 100000 in
set_option maxHeartbeats 8000000 in
open_top hd for PySem.Challenge.rw_dm0253_01
abbrev Kept (h h' : Heap) : Prop := ∀ b o, h.get? b = some o → h'.get? b = some o

theorem Kept.fr {h₀ h h' : Heap} {L : Addr} {m : Str → Option Value} (k : Kept h h') (F : Fr h₀ L h m) : Fr h₀ L h' m := by
  obtain ⟨oL, es, ep, hL, r⟩ := F.ns
  exact ⟨⟨oL, es, ep, k _ _ hL, r⟩, fun b o e => k b o (F.keep b o e), F.above⟩
theorem Kept.news {h₀ h h' : Heap} {L : Addr} {news : List (Addr × Obj)} (k : Kept h h') (N : News h₀ L h news) : News h₀ L h' news :=
  fun p hp => ⟨k _ _ (N p hp).1, (N p hp).2⟩
/-- a new object of the callee's comes onto the caller's ledger -/
theorem Kept.news1 {h₀ h h' : Heap} {L a : Addr} {o : Obj} {m : Str → Option Value} {news : List (Addr × Obj)} (k : Kept h h') (F : Fr h₀ L h m) (N : News h₀ L h news)
    (hn : h.get? a = none) (ha : h'.get? a = some o) : News h₀ L h' ((a, o) :: news) := by
  intro p hp
  rcases List.mem_cons.mp hp with rfl | hp
  · refine ⟨ha, ?_, ?_⟩
    · obtain ⟨oL, es, ep, hL, r⟩ := F.ns
      intro e; subst e; rw [hL] at hn; cases hn
    · cases q : h₀.get? a with
      | none => rfl
      | some o' => rw [F.keep _ _ q] at hn; cases hn
  · exact k.news N p hp

theorem call_pure {prog : Program} {w : World} {A A₀ : Around} {s : Shared} {K : Frag} {L : Addr} {h₀ base : Heap} {m mg mb : Str → Option Value} {p : Program} {loose : List Str} {mean : ExcName → Option Value}
    {env : Env} {outer : List Env} {R : Result → Shared → Prop} {name qual : Str} {params : Arguments} {body : List Stmt} {scope : Scope} {dV kV doc pm cdv ct oc : Value} {an od : Option Addr} {osl : Array (Option Value)} {f : Addr} {args : Args} {binds : List (Str × Value)}
    (B : Below A₀ base outer h₀) (F : Fr h₀ L s.heap m) (X₀ : K.In h₀) (T : Top p loose mean mg mb h₀) (hA : A.frames = some (env :: outer)) (hf : env.frame = some L) (hke : env.scope.kind = .function)
    (ho : K.lookup f = some ⟨oc, od, .func (fnOf name qual params body scope dV kV doc pm an cdv ct), osl⟩) (hcd : codeIn K cdv qual = true) (hroom : A.depth < recursionLimit)
    (hbind : BindsTo s (fnOf name qual params body scope dV kV doc pm an cdv ct) args binds) (hloc : ∀ y ∈ binds, scope.names.lookup y.1 = some .local)
    (h : ∀ L' h₁, Fr s.heap L' h₁ (fun y => binds.reverse.lookup y) → News s.heap L' h₁ [] → Below A base (env :: outer) s.heap → K.In s.heap → Top p loose mean mg mb s.heap →
      wpAny (model prog w) (A.deeper (envOf qual scope L' f cdv)) (execs body (envOf qual scope L' f cdv))
        (fun fl s' => R (.ok (.ret (match fl with | .ret v => v | _ => .none))) s')
        (fun e s' => wpAny (model prog w) (A.deeper (envOf qual scope L' f cdv)) (leaving (envOf qual scope L' f cdv) e) (fun _ s'' => R (.error e) s'') (fun e' s'' => R (.error e') s'') s')
        { s with heap := h₁, toks := s.toks + binds.length })
    (hco : scope.isCoroutine = false) (hgen : scope.isGenerator = false) (hk : scope.kind = .function)
    (hcell : ∀ x ∈ scope.names, x.2 ≠ .cell) : codeAny (model prog w) A (.call (.ref f) args) R s := by
  obtain ⟨_, BG, _, _⟩ := groundX (R := R) B F (News.nil) hA hf hke
  refine codeAny_call_def (fd := fnOf name qual params body scope dV kV doc pm an cdv ct) (body := body) (binds := binds) hroom (X₀.keeps F.keep _ _ ho) rfl (T.nolimit.keeps F.keep) (codeRec_of (X₀.keeps F.keep) hcd) rfl hbind hcell hloc (fun h₁ hns hk₁ => ?_) hco hgen hk
  exact h s.heap.objs.size h₁ ⟨hns, hk₁, Nat.le_refl _⟩ News.nil BG (X₀.keeps F.keep) (T.keeps F.keep)

/-- what a call of a def that changes nothing gives: `Post` of what came back, the heap before and the heap behind -/
abbrev Cl (w : World) (mean : ExcName → Option Value) (mg mb : Str → Option Value) (r : Nat) (f : Addr) (vs : List Value) (Pre : Heap → Prop) (Post : Value → Heap → Heap → Prop) : Prop :=
  ∀ (dp un : Nat) (gd : Option (List Code)) (cn : Str) (cs : Scope) (a : Addr) (ccd : Value) (cl : List (Str × Addr)) (outer : List Env) (A₀ : Around) (base h₀ : Heap) (L : Addr) (m : Str → Option Value) (s : Shared) (Q E : Value → Shared → Prop),
    Below A₀ base outer h₀ → Fr h₀ L s.heap m → (hd.heap_39 w.params).In h₀ → Top hd.view_39 (looseW hd.view_39 []) mean mg mb h₀ → cs.kind = .function → Pre s.heap → dp + r < recursionLimit → un + 8 * r < cLine →
    (∀ (v : Value) (h' : Heap) (tk' : Nat), Kept s.heap h' → Post v s.heap h' → Q v { s with heap := h', toks := tk' }) →
    wpAny (model Challenge.rw_dm0253_01.row.prog w) (ktrTop dp un gd cn cs L a ccd cl outer) (call (.ref f) vs) Q E s
local macro_rules | `(tactic| walk_at "mine enter") => `(tactic| (
  (refine wpAny_call ?_);
  k_dflt (refine' call_pure ?k1 ?k2 ?k3 ?k5 ?kA ?kF ?kK ?k6 ?k7 ?k8 ?k9 ?kB ?_ ?c2 ?c3 ?c4 ?c5; (case kA => exact rfl); (case kF => exact rfl); (case kK => assumption); (case k1 => k_asm); (case k2 => k_asm); (case k3 => k_asm); (case k5 => k_asm); (case k6 => k_is); (case k7 => k_is); (case k8 => ktr_room); (case k9 => exact BindsTo.of_eq rfl); (case c5 => decide); (case kB => exact locs rfl); (case c2 => exact rfl); (case c3 => exact rfl); (case c4 => exact rfl); k_whole);
  intro L' h' F' N' B' X' T'; (try dsimp only); (try k_fold)))
theorem retI {x y : Int} {t : Tok} (e : y = x) : ∃ t', Value.int y t = .int x t' := ⟨t, e ▸ rfl⟩
set_option maxRecDepth 100000 in
set_option maxHeartbeats 8000000 in
theorem cl_T (w : World) (mean : ExcName → Option Value) (mg mb : Str → Option Value) (j bias : Int) (tj tb : Tok) :
    Cl w mean mg mb 1 21 [.int j tj, .int bias tb] (fun _ => True) (fun v _ _ => ∃ t, v = .int (thr j bias) t) := by
  unfold Cl
  k_fill
  intro dp un gd cn cs a ccd cl outer A₀ base h₀ L m s Q E hB hF hK hT hk hpre hd hu hret
  walk_at "mine enter"
  w_on
  k_steps
  all_goals (refine hret _ _ _ (Fr.keep (by assumption)) (retI ?_); simp only [decide_eq_true_eq, decide_eq_false_iff_not] at *; unfold thr ; omega)
theorem perm_sum {a b : List Int} (p : a.Perm b) : a.sum = b.sum := by
  induction p with
  | nil => rfl
  | cons x _ ih => simp only [List.sum_cons, ih]
  | swap x y l => simp only [List.sum_cons]; omega
  | trans _ _ h1 h2 => exact h1.trans h2
theorem med {n : List Int} {x : Int} (p : n.Perm [1, x, 26]) (o : n.Pairwise (fun a b => a ≤ b)) : n.getD (Int.toNat 1) 0 = if x < 1 then 1 else if x > 26 then 26 else x := by
  have hl := p.length_eq
  have hs := perm_sum p
  match n, hl, hs, p, o with
  | [a, b, c], _, hs, p, o =>
    have h1 := (p.mem_iff (a := 1)).mpr (by simp)
    have hx := (p.mem_iff (a := x)).mpr (by simp)
    have h26 := (p.mem_iff (a := 26)).mpr (by simp)
    have ha := (p.mem_iff (a := a)).mp (by simp)
    have hb := (p.mem_iff (a := b)).mp (by simp)
    have hc := (p.mem_iff (a := c)).mp (by simp)
    simp only [List.mem_cons, List.not_mem_nil, or_false, List.sum_cons, List.sum_nil, List.pairwise_cons, forall_eq_or_imp, forall_eq, List.Pairwise.nil, and_true] at h1 hx h26 ha hb hc hs o
    show b = _
    obtain ⟨⟨o1, o2⟩, o3, _⟩ := o
    omega
set_option maxRecDepth 100000 in
set_option maxHeartbeats 8000000 in
theorem cl_least (w : World) (mean : ExcName → Option Value) (mg mb : Str → Option Value) (j bias : Int) (tj tb : Tok) :
    Cl w mean mg mb 1 35 [.int j tj, .int bias tb] (fun _ => True) (fun v _ _ => ∃ t, v = .int (thr j bias) t) := by
  unfold Cl
  k_fill
  intro dp un gd cn cs a ccd cl outer A₀ base h₀ L m s Q E hB hF hK hT hk hpre hd hu hret
  walk_at "mine enter"
  w_on
  k_steps
  refine hret _ _ _ (Fr.keep (by assumption)) (retI ?_)
  exact med (by assumption) (by assumption)
def signI (d : Int) : Int := if d < 26 then 65 + d else 22 + d
theorem abc_len : ((Str.ofString "ABCDEFGHIJKLMNOPQRSTUVWXYZ0123456789").length : Int) = 36 := by decide +kernel
theorem abc_sign {ns : List Int} (h : ∀ x ∈ ns, 0 ≤ x ∧ x < 36) :
    (ns.filter fun _ => true).map (fun a => ([65, 66, 67, 68, 69, 70, 71, 72, 73, 74, 75, 76, 77, 78, 79, 80, 81, 82, 83, 84, 85, 86, 87, 88, 89, 90, 48, 49, 50, 51, 52, 53, 54, 55, 56, 57] : List Int).getD a.toNat 0) = ns.map signI := by
  rw [show ns.filter (fun _ => true) = ns from List.filter_eq_self.mpr fun _ _ => rfl]
  refine List.map_congr_left fun d hd => ?_
  obtain ⟨h0, h1⟩ := h d hd
  obtain ⟨n, rfl⟩ := Int.eq_ofNat_of_zero_le h0
  have hn : n < 36 := by omega
  have all : ∀ n : Fin 36, ([65, 66, 67, 68, 69, 70, 71, 72, 73, 74, 75, 76, 77, 78, 79, 80, 81, 82, 83, 84, 85, 86, 87, 88, 89, 90, 48, 49, 50, 51, 52, 53, 54, 55, 56, 57] : List Int).getD (n.val : Int).toNat 0 = signI (n.val : Int) := by decide +kernel
  exact all ⟨n, hn⟩
theorem retB {x y : List Int} {t : Tok} (e : y = x) : ∃ t', Value.bytes (byteArr y) t = .bytes (byteArr x) t' := ⟨t, e ▸ rfl⟩
local macro_rules | `(tactic| walk_at "subscriptTail Constant str Name str int") => `(tactic| (
  (rename (_ ∈ _) => hm9); (rename (∀ x, x ∈ _ → 0 ≤ x ∧ x < 36) => hn9); (have hb9 := hn9 _ hm9); (have hl9 := abc_len);
  refine item_str (fitsSsize_of (N := 9223372036854775808) (by omega) (by omega) (Int.le_refl _)) (by omega) (by omega) ?_; intro hq9))
set_option maxRecDepth 100000 in
set_option maxHeartbeats 8000000 in
theorem cl_signs (w : World) (mean : ExcName → Option Value) (mg mb : Str → Option Value) (l : Addr) (vs : List Value) (ns : List Int) (hi : IntsAre vs ns) (hn : ∀ x ∈ ns, 0 ≤ x ∧ x < 36) (hlen : ns.length < 1000) :
    Cl w mean mg mb 1 47 [.ref l] (fun h => h.IsList l vs.toArray) (fun v _ _ => ∃ t, v = .bytes (byteArr (ns.map signI)) t) := by
  unfold Cl
  k_fill
  intro dp un gd cn cs a ccd cl outer A₀ base h₀ L m s Q E hB hF hK hT hk hpre hd hu hret
  walk_at "mine enter"
  w_on
  k_steps
  exact hret _ _ _ (Fr.keep (by assumption)) (retB (abc_sign (by assumption)))
theorem item_sign {prog : Program} {w : World} {A : Around} {E : Value → Shared → Prop} {s : Shared} {value slice : Expr} {B : Array UInt8} {xs ds : List Int} {p : Nat} {i j : Int} {t ui : Tok} {Q : Value → Shared → Prop}
    (hB : KBw.bInts B = xs) (hsz : xs.length ≤ 1000) (hd : ∀ n, n < ds.length → p + n < xs.length ∧ xs.getD (p + n) 0 = signI (ds.getD n 0)) (hr : ∀ n, n < ds.length → 0 ≤ ds.getD n 0 ∧ ds.getD n 0 < 36)
    (hj : 0 ≤ j) (hj' : j.toNat < ds.length) (hi : i = (p : Int) + j)
    (h : ∀ (c : Int) (t' : Tok) (k : Nat), (ds.getD j.toNat 0 < 26 ∧ c = 65 + ds.getD j.toNat 0 ∨ 26 ≤ ds.getD j.toNat 0 ∧ c = 22 + ds.getD j.toNat 0) → 0 ≤ ds.getD j.toNat 0 → ds.getD j.toNat 0 < 36 → Q (.int c t') { s with toks := k })
    (hs : subscripted slice false (.bytes B t) (.int i ui) = operate [.bytes B t, .int i ui] (getItem (.bytes B t) (.int i ui)) := by with_unfolding_all rfl)
    (ht : ∀ r, letTemporaryGo value (.bytes B t) r = pure () := by intro _; with_unfolding_all rfl) : wpAny (model prog w) A (subscriptTail value slice (.bytes B t) (.int i ui)) Q E s := by
  obtain ⟨h1, h2⟩ := hd _ hj'
  obtain ⟨r1, r2⟩ := hr _ hj'
  have e : i.toNat = p + j.toNat := by omega
  refine KBw.item_K hB (by omega) (by omega) (by omega) (fun t' k _ _ => ?_) hs ht
  rw [e, h2]
  refine h _ t' k ?_ r1 r2
  unfold signI
  split <;> omega


theorem use_T {w : World} {mean : ExcName → Option Value} {mg mb : Str → Option Value} {j b : Int} {tj tb : Tok} {dp un : Nat} {gd : Option (List Code)} {cn : Str} {cs : Scope} {a : Addr} {ccd : Value} {cl : List (Str × Addr)} {outer : List Env} {A₀ : Around} {base h₀ : Heap} {L : Addr} {m : Str → Option Value} {news : List (Addr × Obj)} {s : Shared} {Q E : Value → Shared → Prop}
    (B : Below A₀ base outer h₀) (F : Fr h₀ L s.heap m) (X : (hd.heap_39 w.params).In h₀) (N : News h₀ L s.heap news) (T : Top hd.view_39 (looseW hd.view_39 []) mean mg mb h₀) (hk : cs.kind = .function) (hd : dp + 1 < recursionLimit) (hu : un + 8 < cLine)
    (h : ∀ t h' tk', 1 ≤ thr j b → thr j b ≤ 26 → Fr h₀ L h' m → News h₀ L h' news → Q (.int (thr j b) t) { s with heap := h', toks := tk' }) :
    wpAny (model Challenge.rw_dm0253_01.row.prog w) (ktrTop dp un gd cn cs L a ccd cl outer) (call (.ref 21) [.int j tj, .int b tb]) Q E s := by
  refine cl_T w mean mg mb j b tj tb dp un gd cn cs a ccd cl outer A₀ base h₀ L m s Q E B F X T hk trivial hd hu fun v h' tk' k hv => ?_
  obtain ⟨t, rfl⟩ := hv
  exact h t h' tk' (thr_lo _ _) (thr_hi _ _) (k.fr F) (k.news N)

/-- what holds between the turns of decode's loop -/
def DecInv (b : Int) (ds : List Int) (p : Nat) (pos r w j : Int) : Prop := 0 ≤ j ∧ j.toNat < ds.length ∧ pos = (p : Int) + j ∧ w = wt b j.toNat ∧ r = pv b ds j.toNat
theorem DecInv.start {b : Int} {ds : List Int} {p : Nat} (g : Good b ds) : DecInv b ds p p 0 1 0 := ⟨Int.le_refl _, g.pos, by omega, rfl, rfl⟩
theorem DecInv.step {b : Int} {ds : List Int} {p : Nat} {pos r w j d : Int} (g : Good b ds) (x : DecInv b ds p pos r w j) (e : d = ds.getD j.toNat 0) (h : ¬ d < thr j b) :
    DecInv b ds p (pos + 1) (r + d * w) (w * (36 - thr j b)) (j + 1) := by
  obtain ⟨h1, h2, h3, h4, h5⟩ := x
  have ej : ((j.toNat : Nat) : Int) = j := by omega
  have n := g.not_last h2 (by rw [ej, ← e]; omega)
  have en : (j + 1).toNat = j.toNat + 1 := by omega
  refine ⟨by omega, by omega, by omega, ?_, ?_⟩
  · rw [en, wt, ej, h4]
  · rw [en, pv, h5, h4, e]
theorem DecInv.done {b : Int} {ds : List Int} {p : Nat} {pos r w j d : Int} (x : DecInv b ds p pos r w j) (g : Good b ds) (e : d = ds.getD j.toNat 0) (h : d < thr j b) :
    pos + 1 = (p : Int) + ds.length ∧ r + d * w = pv b ds ds.length := by
  obtain ⟨h1, h2, h3, h4, h5⟩ := x
  have ej : ((j.toNat : Nat) : Int) = j := by omega
  have n := g.is_last h2 (by rw [ej, ← e]; omega)
  refine ⟨by omega, ?_⟩
  rw [← n, pv, h5, h4, e]
theorem dec_ret {b : Int} {ds : List Int} {p n : Nat} {pos r w j d : Int} {t u : Tok} {h₀ h : Heap} {L D : Addr} (N : News h₀ L h [(D, { cls := .type "tuple", data := .seq #[.int (pos + 1) t, .int (r + d * w) u] n })])
    (g : Good b ds) (x : DecInv b ds p pos r w j) (e : d = ds.getD j.toNat 0) (hd : d < thr j b) :
    ∃ a t u n, Value.ref D = .ref a ∧ h₀.get? a = none ∧ h.get? a = some { cls := .type "tuple", data := .seq #[.int ((p : Int) + ds.length) t, .int (pv b ds ds.length) u] n } := by
  obtain ⟨e1, e2⟩ := x.done g e hd
  have z := N _ (.head _)
  rw [e1, e2] at z
  exact ⟨D, t, u, n, rfl, z.2.2, z.1⟩
theorem DecInv.less {b : Int} {ds : List Int} {p : Nat} {pos r w j : Int} (x : DecInv b ds p pos r w j) : ds.length - (j + 1).toNat < ds.length - j.toNat := by
  obtain ⟨h1, h2, h3, h4, h5⟩ := x
  omega
local macro_rules | `(tactic| walk_at "subscriptTail Name Name bytes int") => `(tactic| (
  (rename DecInv _ _ _ _ _ _ _ => hI9); (rename Good _ _ => hg9);
  k_dflt (refine item_sign (by assumption) (by assumption) (by assumption) hg9.rng hI9.1 hI9.2.1 hI9.2.2.1 ?_);
  intro c9 t9 k9 hc9 h09 h19))
local macro_rules | `(tactic| walk_at "call ref") => `(tactic| (
  k_here; (with_reducible show wpAny _ _ (call (Value.ref 21) [Value.int _ _, Value.int _ _]) _ _ _);
  k_dflt (refine' use_T ?k1 ?k2 ?k3 ?k4 ?k5 ?k6 ?k7 ?k8 ?_; (case k1 => k_asm); (case k2 => k_asm); (case k3 => k_asm); (case k4 => k_asm); (case k5 => k_asm); (case k6 => first | exact rfl | assumption); (case k7 => ktr_room); (case k8 => ktr_units));
  intro t9 h' tk9 hlo9 hhi9 F' N'; (try k_sweep)))
local macro_rules | `(tactic| walk_at "KswEnd") => `(tactic| (
  (refine ksw_end ⟨_, _, _, _, _, _, _, _⟩ (by assumption) (by assumption) (by kst_in) (by kst_facts) (by kst_all) (by ksw_same) ?kp ?km);
  (case kp => (dsimp only; (refine DecInv.step (by assumption) (by assumption) ?_ ?_) <;> omega));
  (case km => (dsimp only; exact DecInv.less (by assumption)))))
set_option maxRecDepth 100000 in
set_option maxHeartbeats 8000000 in
theorem cl_decode (w : World) (mean : ExcName → Option Value) (mg mb : Str → Option Value) (B : Array UInt8) (xs ds : List Int) (p : Nat) (b : Int) (e : Str) (tx tp tb te : Tok) (hB : KBw.bInts B = xs) (hsz : xs.length ≤ 1000)
    (hds : ∀ n, n < ds.length → p + n < xs.length ∧ xs.getD (p + n) 0 = signI (ds.getD n 0)) (hg : Good b ds) :
    Cl w mean mg mb 3 28 [.bytes B tx, .int (p : Int) tp, .int b tb, .str e te] (fun _ => True) (fun v h h' => ∃ a t u n, v = .ref a ∧ h.get? a = none ∧ h'.get? a = some { cls := .type "tuple", data := .seq #[.int ((p : Int) + ds.length) t, .int (pv b ds ds.length) u] n }) := by
  unfold Cl
  k_fill
  intro dp un gd cn cs a ccd cl outer A₀ base h₀ L m s Q E hB hF hK hT hk hpre hd hu hret
  walk_at "mine enter"
  w_on
  k_with_none
  k_with "state" => exact DecInv.start hg
  k_with "exec While Constant cons nil" => k_while (fun _ pos r w j => DecInv b ds p pos r w j) (fun _ pos r w j => ds.length - j.toNat) "extpos" "result" "w" "j"
  k_steps
  rename News _ _ _ _ => N9
  exact hret _ _ _ (Fr.keep (by assumption)) (dec_ret N9 (by assumption) (by assumption) (by omega) (by assumption))
theorem use_least {w : World} {mean : ExcName → Option Value} {mg mb : Str → Option Value} {j b : Int} {tj tb : Tok} {dp un : Nat} {gd : Option (List Code)} {cn : Str} {cs : Scope} {a : Addr} {ccd : Value} {cl : List (Str × Addr)} {outer : List Env} {A₀ : Around} {base h₀ : Heap} {L : Addr} {m : Str → Option Value} {news : List (Addr × Obj)} {s : Shared} {Q E : Value → Shared → Prop}
    (B : Below A₀ base outer h₀) (F : Fr h₀ L s.heap m) (X : (hd.heap_39 w.params).In h₀) (N : News h₀ L s.heap news) (T : Top hd.view_39 (looseW hd.view_39 []) mean mg mb h₀) (hk : cs.kind = .function) (hd : dp + 1 < recursionLimit) (hu : un + 8 < cLine)
    (h : ∀ t h' tk', 1 ≤ thr j b → thr j b ≤ 26 → Fr h₀ L h' m → News h₀ L h' news → Q (.int (thr j b) t) { s with heap := h', toks := tk' }) :
    wpAny (model Challenge.rw_dm0253_01.row.prog w) (ktrTop dp un gd cn cs L a ccd cl outer) (call (.ref 35) [.int j tj, .int b tb]) Q E s := by
  refine cl_least w mean mg mb j b tj tb dp un gd cn cs a ccd cl outer A₀ base h₀ L m s Q E B F X T hk trivial hd hu fun v h' tk' k hv => ?_
  obtain ⟨t, rfl⟩ := hv
  exact h t h' tk' (thr_lo _ _) (thr_hi _ _) (k.fr F) (k.news N)


theorem next_ret {b : Int} {ds es : List Int} {h₀ h : Heap} {L D : Addr} {us : List Value} {n : Nat} (N : News h₀ L h [(D, W.listOf us.toArray n)]) (hi : IntsAre us es) (u : OneUp b ds es) :
    ∃ a ws es n, Value.ref D = .ref a ∧ h₀.get? a = none ∧ h.get? a = some (W.listOf ws.toArray n) ∧ IntsAre ws es ∧ OneUp b ds es :=
  have z := N _ (.head _)
  ⟨D, us, es, n, rfl, z.2.2, z.1, hi, u⟩
theorem next_retA {b : Int} {ds es : List Int} {h₀ h : Heap} {L D : Addr} {us : List Value} {t : Tok} {n : Nat} (N : News h₀ L h [(D, { cls := .type "list", data := .seq (us.toArray.push (.int 0 t)) n })]) (hi : IntsAre us es) (u : OneUp b ds (es ++ [0])) :
    ∃ a ws es n, Value.ref D = .ref a ∧ h₀.get? a = none ∧ h.get? a = some (W.listOf ws.toArray n) ∧ IntsAre ws es ∧ OneUp b ds es := by
  have z := N _ (.head _)
  rw [List.push_toArray] at z
  exact ⟨D, us ++ [.int 0 t], es ++ [0], n, rfl, z.2.2, z.1, IntsAre.append hi (.cons 0 t .nil), u⟩
local macro_rules | `(tactic| walk_at "call ref") => `(tactic| (
  k_here; (with_reducible show wpAny _ _ (call (Value.ref 35) [Value.int _ _, Value.int _ _]) _ _ _);
  k_dflt (refine' use_least ?k1 ?k2 ?k3 ?k4 ?k5 ?k6 ?k7 ?k8 ?_; (case k1 => k_asm); (case k2 => k_asm); (case k3 => k_asm); (case k4 => k_asm); (case k5 => k_asm); (case k6 => first | exact rfl | assumption); (case k7 => ktr_room); (case k8 => ktr_units));
  intro t9 h' tk9 hlo9 hhi9 F' N'; (try k_sweep)))
local macro_rules | `(tactic| walk_at "KswEnd") => `(tactic| (
  (refine ksw_end ⟨_, _, _, _, _⟩ (by assumption) (by assumption) (by kst_in) (by (dsimp only; assumption)) (by kst_all) (by ksw_same) ?kp ?km);
  (case kp => (dsimp only; exact NextInv.all (NextInv.step (by assumption) (by assumption) (by assumption)) (by assumption)));
  (case km => (dsimp only; exact NextInv.less (by assumption)))))
set_option maxRecDepth 100000 in
set_option maxHeartbeats 8000000 in
theorem cl_next (w : World) (mean : ExcName → Option Value) (mg mb : Str → Option Value) (l : Addr) (vs : List Value) (ds : List Int) (b : Int) (tb : Tok) (hi : IntsAre vs ds) (hg : Good b ds) (hlen : ds.length < 500) :
    Cl w mean mg mb 3 42 [.ref l, .int b tb] (fun h => h.IsList l vs.toArray) (fun v h h' => ∃ a ws es n, v = .ref a ∧ h.get? a = none ∧ h'.get? a = some (W.listOf ws.toArray n) ∧ IntsAre ws es ∧ OneUp b ds es) := by
  unfold Cl
  k_fill
  intro dp un gd cn cs a ccd cl outer A₀ base h₀ L m s Q E hB hF hK hT hk hpre hd hu hret
  walk_at "mine enter"
  w_on
  k_with_none
  k_with "state" => exact NextInv.all (NextInv.start (by assumption)) (by assumption)
  k_with "exec While Compare cons nil" => k_while (fun _ cs k => 0 ≤ k ∧ k < (cs.length : Int) ∧ cs.length < 500 ∧ NextInv b ds cs k) (fun _ cs k => ds.length - k.toNat) "digits" "k"
  k_steps
  all_goals (rename News _ _ _ _ => N9)
  · exact hret _ _ _ (Fr.keep (by assumption)) (next_retA N9 (by assumption) (NextInv.grow (by assumption) (by assumption) (by assumption) (by assumption) (by assumption)))
  · exact hret _ _ _ (Fr.keep (by assumption)) (next_ret N9 (by assumption) (NextInv.stay (by assumption) (by assumption) (by assumption) (.inr (by assumption))))
  · exact hret _ _ _ (Fr.keep (by assumption)) (next_ret N9 (by assumption) (NextInv.stay (by assumption) (by assumption) (by assumption) (.inl (by assumption))))
theorem bInts_of {ns : List Int} (h : ∀ n ∈ ns, 0 ≤ n ∧ n < 256) : KBw.bInts (byteArr ns) = ns := by
  unfold KBw.bInts byteArr
  simp only [List.map_map]
  conv => rhs; rw [← List.map_id ns]
  refine List.map_congr_left fun n hn => ?_
  obtain ⟨h0, h1⟩ := h n hn
  exact byte_back h0 h1
theorem signI_byte {d : Int} (h0 : 0 ≤ d) (h1 : d < 36) : 0 ≤ signI d ∧ signI d < 256 := by unfold signI; split <;> omega

section
variable {w : World} {mean : ExcName → Option Value} {mg mb : Str → Option Value} {dp un : Nat} {gd : Option (List Code)} {cn : Str} {cs : Scope} {a : Addr} {ccd : Value} {cl : List (Str × Addr)} {outer : List Env} {A₀ : Around} {base h₀ : Heap} {L : Addr} {m : Str → Option Value} {news : List (Addr × Obj)} {s : Shared} {Q E : Value → Shared → Prop}
theorem use_signs {l : Addr} {vs : List Value} {ns : List Int} {n : Nat}
    (B : Below A₀ base outer h₀) (F : Fr h₀ L s.heap m) (X : (hd.heap_39 w.params).In h₀) (N : News h₀ L s.heap news) (T : Top hd.view_39 (looseW hd.view_39 []) mean mg mb h₀) (hk : cs.kind = .function) (hd : dp + 1 < recursionLimit) (hu : un + 8 < cLine)
    (hm : (l, W.listOf vs.toArray n) ∈ news) (hi : IntsAre vs ns) (hn : ∀ x ∈ ns, 0 ≤ x ∧ x < 36) (hlen : ns.length < 1000)
    (h : ∀ Bs t h' tk', KBw.bInts Bs = ns.map signI → Fr h₀ L h' m → News h₀ L h' news → Q (.bytes Bs t) { s with heap := h', toks := tk' }) :
    wpAny (model Challenge.rw_dm0253_01.row.prog w) (ktrTop dp un gd cn cs L a ccd cl outer) (call (.ref 47) [.ref l]) Q E s := by
  refine cl_signs w mean mg mb l vs ns hi hn hlen dp un gd cn cs a ccd cl outer A₀ base h₀ L m s Q E B F X T hk ⟨_, (N _ hm).1, rfl, n, rfl⟩ hd hu fun v h' tk' k hv => ?_
  obtain ⟨t, rfl⟩ := hv
  refine h _ t h' tk' (bInts_of fun x hx => ?_) (k.fr F) (k.news N)
  obtain ⟨d, hd, rfl⟩ := List.mem_map.mp hx
  exact signI_byte (hn d hd).1 (hn d hd).2
theorem use_next {l : Addr} {vs : List Value} {ds : List Int} {n : Nat} {b : Int} {tb : Tok}
    (B : Below A₀ base outer h₀) (F : Fr h₀ L s.heap m) (X : (hd.heap_39 w.params).In h₀) (N : News h₀ L s.heap news) (T : Top hd.view_39 (looseW hd.view_39 []) mean mg mb h₀) (hk : cs.kind = .function) (hd : dp + 3 < recursionLimit) (hu : un + 24 < cLine)
    (hm : (l, W.listOf vs.toArray n) ∈ news) (hi : IntsAre vs ds) (hg : Good b ds) (hlen : ds.length < 500)
    (h : ∀ D ws es n h' tk', IntsAre ws es → OneUp b ds es → Fr h₀ L h' m → News h₀ L h' ((D, W.listOf ws.toArray n) :: news) → Q (.ref D) { s with heap := h', toks := tk' }) :
    wpAny (model Challenge.rw_dm0253_01.row.prog w) (ktrTop dp un gd cn cs L a ccd cl outer) (call (.ref 42) [.ref l, .int b tb]) Q E s := by
  refine cl_next w mean mg mb l vs ds b tb hi hg hlen dp un gd cn cs a ccd cl outer A₀ base h₀ L m s Q E B F X T hk ⟨_, (N _ hm).1, rfl, n, rfl⟩ hd hu fun v h' tk' k hv => ?_
  obtain ⟨D, ws, es, n', rfl, hn, ho, hi', u⟩ := hv
  exact h D ws es n' h' tk' hi' u (k.fr F) (k.news1 F N hn ho)
theorem use_decode {Bs : Array UInt8} {xs pre post ds : List Int} {p b : Int} {e : Str} {tx tp tb te : Tok}
    (B : Below A₀ base outer h₀) (F : Fr h₀ L s.heap m) (X : (hd.heap_39 w.params).In h₀) (N : News h₀ L s.heap news) (T : Top hd.view_39 (looseW hd.view_39 []) mean mg mb h₀) (hk : cs.kind = .function) (hd : dp + 3 < recursionLimit) (hu : un + 24 < cLine)
    (hB : KBw.bInts Bs = xs) (hx : xs = pre ++ ds.map signI ++ post) (hsz : xs.length ≤ 1000) (hp : p = (pre.length : Int)) (hg : Good b ds)
    (h : ∀ D t u n h' tk', Fr h₀ L h' m → News h₀ L h' ((D, { cls := .type "tuple", data := .seq #[.int ((pre.length : Int) + ds.length) t, .int (pv b ds ds.length) u] n }) :: news) → Q (.ref D) { s with heap := h', toks := tk' }) :
    wpAny (model Challenge.rw_dm0253_01.row.prog w) (ktrTop dp un gd cn cs L a ccd cl outer) (call (.ref 28) [.bytes Bs tx, .int p tp, .int b tb, .str e te]) Q E s := by
  subst hp
  refine cl_decode w mean mg mb Bs xs ds pre.length b e tx tp tb te hB hsz (fun n hn => ?_) hg dp un gd cn cs a ccd cl outer A₀ base h₀ L m s Q E B F X T hk trivial hd hu fun v h' tk' k hv => ?_
  · subst hx
    refine ⟨by simp only [List.length_append, List.length_map]; omega, ?_⟩
    rw [List.append_assoc, List.getD_eq_getElem?_getD, List.getElem?_append_right (by omega), Nat.add_sub_cancel_left, List.getElem?_append_left (by simpa using hn), List.getElem?_map]
    simp [List.getD, hn]
  · obtain ⟨D, t, u, n, rfl, hn, ho⟩ := hv
    exact h D t u n h' tk' (k.fr F) (k.news1 F N hn ho)
end
/-- what stands behind the law's first test: the bias is an int, all else as it was -/
def BiasSet (h₀ : Heap) (L : Addr) (m : Str → Option Value) (news : List (Addr × Obj)) (s₁ : Shared) (f : Flow) (s₂ : Shared) : Prop :=
  f = .next ∧ ∃ h tk b t, s₂ = { s₁ with heap := h, toks := tk } ∧ Fr h₀ L h (fun y => if y = Str.ofString "bias" then some (.int b t) else m y) ∧ News h₀ L h news
structure BiasMark : Prop where
  mark :: (one : True)
section
variable {M : Model} {A : Around} {E : Value → Shared → Prop} {Q : Flow → Shared → Prop} {s : Shared} {st : Stmt} {env : Env} {h₀ h : Heap} {L : Addr} {m : Str → Option Value} {news news' : List (Addr × Obj)} {tk : Nat} {v : Int} {t : Tok}
theorem join_bias (_F : Fr h₀ L s.heap m) (_N : News h₀ L s.heap news) (h1 : wpAny M A (exec st env) (BiasSet h₀ L m news s) E s)
    (h2 : ∀ h tk b t, Fr h₀ L h (fun y => if y = Str.ofString "bias" then some (.int b t) else m y) → News h₀ L h news → Q .next { s with heap := h, toks := tk }) : wpAny M A (exec st env) Q E s :=
  wpAny_mono h1 (fun f s₂ x => by
    obtain ⟨rfl, h, tk, b, t, rfl, F', N'⟩ := x
    exact h2 h tk b t F' N') fun _ _ x => x
theorem bias_then (F : Fr h₀ L h (fun y => if y = Str.ofString "bias" then some (.int v t) else m y)) (N : News h₀ L h news') (hs : ∀ p ∈ news, p ∈ news') :
    BiasSet h₀ L m news s .next { s with heap := h, toks := tk } := ⟨rfl, h, tk, v, t, rfl, F, fun p hp => N p (hs p hp)⟩
theorem bias_else (F : Fr h₀ L h m) (N : News h₀ L h news') (hm : m (Str.ofString "bias") = some (.int v t)) (hs : ∀ p ∈ news, p ∈ news') :
    BiasSet h₀ L m news s .next { s with heap := h, toks := tk } := by
  refine ⟨rfl, h, tk, v, t, rfl, ?_, fun p hp => N p (hs p hp)⟩
  have em : (fun y => if y = Str.ofString "bias" then some (Value.int v t) else m y) = m := by
    funext y
    by_cases hy : y = Str.ofString "bias"
    · rw [if_pos hy, hy, hm]
    · rw [if_neg hy]
  rw [em]
  exact F
end
theorem pos_of_ne {ss : List Int} (h : decide (ss = []) = false) : 0 < ss.length := by
  cases ss with
  | nil => simp at h
  | cons _ _ => simp
/-- a goal that waits -/
def Wait (P : Prop) : Prop := P
theorem Wait.out {P : Prop} (h : Wait P) : P := h
theorem Wait.in {P : Prop} (h : P) : Wait P := h
section
variable {prog : Program} {w : World} {A : Around} {E : Value → Shared → Prop} {s : Shared} {h₀ : Heap} {L D : Addr} {news : List (Addr × Obj)} {value slice : Expr} {vs : List Value} {ns : List Int} {n : Nat} {u : Tok} {Q : Value → Shared → Prop}
theorem last_item (N : News h₀ L s.heap news) (hm : (D, W.listOf vs.toArray n) ∈ news) (hi : IntsAre vs ns) (hp : 0 < ns.length) (hz : ns.length < 1000) (h : ∀ t, Q (.int (ns.getD (ns.length - 1) 0) t) s)
    (hs : subscripted slice false (.ref D) (.int (-1) u) = operate [.ref D, .int (-1) u] (getItem (.ref D) (.int (-1) u)) := by with_unfolding_all rfl) (hg : ∀ r, letTemporaryGo value (.ref D) r = pure () := by intro _; with_unfolding_all rfl) :
    wpAny (model prog w) A (subscriptTail value slice (.ref D) (.int (-1) u)) Q E s := by
  have hl := hi.length
  obtain ⟨t, ht⟩ := hi.get (ns.length - 1) (ns.getD (ns.length - 1) 0) (by
    rw [List.getD_eq_getElem?_getD, List.getElem?_eq_getElem (by omega)]; rfl)
  refine kim_back N hm rfl rfl (by decide) (by omega) (by decide) ?_ (h t) hs hg
  have e : ((-1 : Int) + (vs.length : Int)).toNat = ns.length - 1 := by omega
  rw [e]
  exact ht
end
theorem len_cast {ds : List Int} (h : decide (ds = []) = false) : ((ds.length - 1 : Nat) : Int) = (ds.length : Int) - 1 := by
  have := pos_of_ne h
  omega
theorem part_or {b : Int} {ds : List Int} (h3 : decide (ds = []) = false) (h4 : thr ((ds.length : Int) - 1) b ≤ ds.getD (ds.length - 1) 0) : ds = [] ∨ thr ((ds.length - 1 : Nat) : Int) b ≤ ds.getD (ds.length - 1) 0 :=
  .inr (by rw [len_cast h3]; exact h4)
theorem part_app {b x : Int} {ds pre : List Int} (h1 : Part b ds) (h2 : ds.length ≤ pre.length) (h3 : ds = [] ∨ thr ((ds.length - 1 : Nat) : Int) b ≤ ds.getD (ds.length - 1) 0) :
    Part b (ds ++ [x.fmod 36]) ∧ (ds ++ [x.fmod 36]).length ≤ (pre ++ [x]).length :=
  ⟨h1.snoc h3 (fmod_lo _ (by decide)) (fmod_hi _ (by decide)), by simp only [List.length_append, List.length_cons, List.length_nil]; omega⟩
/-- what stands behind the law's test that ends the digits: they are a whole number -/
def GoodSet (h₀ : Heap) (L : Addr) (m : Str → Option Value) (D S : Addr) (oS : Obj) (b : Int) (s₁ : Shared) (f : Flow) (s₂ : Shared) : Prop :=
  f = .next ∧ ∃ h tk ws ds n, s₂ = { s₁ with heap := h, toks := tk } ∧ Fr h₀ L h m ∧ News h₀ L h [(D, W.listOf ws.toArray n), (S, oS)] ∧ IntsAre ws ds ∧ Good b ds ∧ ds.length ≤ 64
structure GoodMark : Prop where
  mark :: (one : True)
section
variable {M : Model} {A : Around} {E : Value → Shared → Prop} {Q : Flow → Shared → Prop} {s : Shared} {st : Stmt} {env : Env} {h₀ h : Heap} {L D S : Addr} {m : Str → Option Value} {oS : Obj} {news news' : List (Addr × Obj)} {tk n : Nat} {b : Int} {tb t : Tok} {us : List Value} {ds : List Int}
theorem join_good (_F : Fr h₀ L s.heap m) (_N : News h₀ L s.heap news) (hD : m (Str.ofString "digits") = some (.ref D)) (hb : m (Str.ofString "bias") = some (.int b tb)) (hS : m (Str.ofString "script") = some (.ref S)) (_hm : (S, oS) ∈ news)
    (h1 : wpAny M A (exec st env) (GoodSet h₀ L m D S oS b s) E s)
    (h2 : ∀ (u : Str → Option Value) h tk ws ds n, IntsAre ws ds → Good b ds → ds.length ≤ 64 →
      Fr h₀ L h (fun y => if y = Str.ofString "digits" then some (.ref D) else if y = Str.ofString "bias" then some (.int b tb) else if y = Str.ofString "script" then some (.ref S) else u y) →
      News h₀ L h [(D, W.listOf ws.toArray n), (S, oS)] → Q .next { s with heap := h, toks := tk }) : wpAny M A (exec st env) Q E s :=
  wpAny_mono h1 (fun f s₂ x => by
    obtain ⟨rfl, h, tk, ws, ds, n, rfl, F', N', hi, hg, hz⟩ := x
    refine h2 m h tk ws ds n hi hg hz ?_ N'
    have em : (fun y => if y = Str.ofString "digits" then some (Value.ref D) else if y = Str.ofString "bias" then some (.int b tb) else if y = Str.ofString "script" then some (.ref S) else m y) = m := by
      funext y
      by_cases h1 : y = Str.ofString "digits"
      · rw [if_pos h1, h1, hD]
      · rw [if_neg h1]
        by_cases h2 : y = Str.ofString "bias"
        · rw [if_pos h2, h2, hb]
        · rw [if_neg h2]
          by_cases h3 : y = Str.ofString "script"
          · rw [if_pos h3, h3, hS]
          · rw [if_neg h3]
    rw [em]
    exact F') fun _ _ x => x
theorem good_two {o : Obj} (N : News h₀ L h news') (h1 : (D, o) ∈ news') (h2 : (S, oS) ∈ news') : News h₀ L h [(D, o), (S, oS)] := by
  intro p hp
  rcases List.mem_cons.mp hp with rfl | hp
  · exact N _ h1
  · exact (List.mem_singleton.mp hp) ▸ N _ h2
theorem good_app (F : Fr h₀ L h m) (N : News h₀ L h news') (h1 : (D, W.listOf (us.toArray.push (.int 0 t)) n) ∈ news') (h2 : (S, oS) ∈ news') (hi : IntsAre us ds) (p : Part b ds)
    (ho : ds = [] ∨ thr ((ds.length - 1 : Nat) : Int) b ≤ ds.getD (ds.length - 1) 0) (hz : ds.length ≤ 63) : GoodSet h₀ L m D S oS b s .next { s with heap := h, toks := tk } := by
  rw [List.push_toArray] at h1
  exact ⟨rfl, h, tk, us ++ [.int 0 t], ds ++ [0], n, rfl, F, good_two N h1 h2, hi.append (.cons 0 t .nil), p.good0 ho, by simp only [List.length_append, List.length_cons, List.length_nil]; omega⟩
theorem good_stay (F : Fr h₀ L h m) (N : News h₀ L h news') (h1 : (D, W.listOf us.toArray n) ∈ news') (h2 : (S, oS) ∈ news') (hi : IntsAre us ds) (p : Part b ds)
    (h3 : decide (ds = []) = false) (h4 : ¬ thr ((ds.length : Int) - 1) b ≤ ds.getD (ds.length - 1) 0) (hz : ds.length ≤ 63) : GoodSet h₀ L m D S oS b s .next { s with heap := h, toks := tk } :=
  ⟨rfl, h, tk, us, ds, n, rfl, F, good_two N h1 h2, hi, p.good (by simpa using h3) (by rw [len_cast h3]; omega), by omega⟩
end
section
variable {prog : Program} {w : World} {A : Around} {E : Value → Shared → Prop} {s : Shared} {env : Env} {h₀ : Heap} {x : Str} {body : List Stmt} {Q : Flow → Shared → Prop} {m₀ : Str → Option Value} {news all : List (Addr × Obj)}

/-- a turn's end that keeps the ledger `news` and every name but the forgotten ones -/
def ErrsEnd (h₀ : Heap) (L : Addr) (forgot : List Str) (m₀ : Str → Option Value) (news own : List (Addr × Obj)) (s₁ s₂ : Shared) : Prop :=
  ∃ h' tk m' news', s₂ = { s₁ with heap := h', toks := tk } ∧ Fr h₀ L h' m' ∧ News h₀ L h' news' ∧ (∀ p ∈ news, p ∈ news') ∧ (∀ p ∈ own, p ∈ news') ∧ ∀ y, forgot.contains y = false → m' y = m₀ y
def ErrsPost (h₀ : Heap) (L : Addr) (forgot : List Str) (m₀ : Str → Option Value) (news own : List (Addr × Obj)) (s₁ : Shared) (Q : Flow → Shared → Prop) (f : Flow) (s₂ : Shared) : Prop :=
  match f with
  | .ret v => Q (.ret v) s₂
  | .brk => Q .next s₂
  | _ => ErrsEnd h₀ L forgot m₀ news own s₁ s₂
theorem forget_fr {h : Heap} {L : Addr} {forgot : List Str} {m₁ : Str → Option Value} (hm : ∀ y, forgot.contains y = false → m₁ y = m₀ y) (F : Fr h₀ L h m₁) : Fr h₀ L h (fun y => if forgot.contains y then m₁ y else m₀ y) := by
  have e : (fun y => if forgot.contains y then m₁ y else m₀ y) = m₁ := by
    funext y
    cases h3 : forgot.contains y with
    | true => simp
    | false => simp only [Bool.false_eq_true, if_false]; exact (hm y h3).symm
  rw [e]
  exact F
theorem forget_frx {h : Heap} {L : Addr} {forgot : List Str} {m₁ : Str → Option Value} {v : Value} (hm : ∀ y, forgot.contains y = false → m₁ y = m₀ y) (F : Fr h₀ L h (fun y => if y = x then some v else m₁ y)) :
    Fr h₀ L h (fun y => if y = x then some v else if forgot.contains y then m₁ y else m₀ y) := by
  have e : (fun y => if y = x then some v else if forgot.contains y then m₁ y else m₀ y) = fun y => if y = x then some v else m₁ y := by
    funext y
    by_cases hy : y = x
    · rw [if_pos hy, if_pos hy]
    · rw [if_neg hy, if_neg hy]
      cases h3 : forgot.contains y with
      | true => simp
      | false => simp only [Bool.false_eq_true, if_false]; exact (hm y h3).symm
  rw [e]
  exact F
/-- a loop over a list of the ledger's, whose turns keep the ledger `news` -/
theorem iter_errs {l : Addr} {vs : List Value} {n₁ : Nat} (forgot : List Str) (hh : A.handled = none) (hm : (l, W.listOf vs.toArray n₁) ∈ all) (N : News h₀ env.locals s.heap all) (hs : ∀ p ∈ news, p ∈ all) (F : Fr h₀ env.locals s.heap m₀)
    (turn : ∀ (v : Value) (u : Str → Option Value) h tk own, v ∈ vs → Fr h₀ env.locals h (fun y => if y = x then some v else if forgot.contains y then u y else m₀ y) → News h₀ env.locals h (news ++ own) →
      wpAny (model prog w) A (execs body env) (ErrsPost h₀ env.locals forgot m₀ news own { s with heap := h, toks := tk } Q) E { s with heap := h, toks := tk })
    (done : ∀ (u : Str → Option Value) h tk, Fr h₀ env.locals h (fun y => if forgot.contains y then u y else m₀ y) → News h₀ env.locals h news → Q .next { s with heap := h, toks := tk }) :
    wpAny (model prog w) A (pyIter (.ref l)) (fun it s₂ => LoopAtV prog w A h₀ env x body Q E it s₂) E s := by
  have hls : s.heap.IsList l vs.toArray := ⟨_, (N _ hm).1, rfl, n₁, rfl⟩
  have hne : l ≠ s.heap.objs.size := Nat.ne_of_lt (Heap.lt_size (N _ hm).1)
  refine wpAny_pyIter_list hls ?_
  have Wk := Walks.list (prog := prog) (w := w) hh s.heap.objs.size l hne vs.toArray
  refine ⟨_, _, _, _, _, _, m₀, news, fun _ m₁ news₁ => news₁ = news ∧ ∀ y, forgot.contains y = false → m₁ y = m₀ y, rfl, Wk, ?_, ?_, ?_, ⟨⟨_, Heap.get?_push_size _ rfl, rfl, rfl⟩, hls.at fun o e => Heap.get?_push_of_some _ e⟩, F.push _, (fun p hp => ⟨Heap.get?_push_of_some _ (N p (hs p hp)).1, (N p (hs p hp)).2⟩), ⟨rfl, fun _ _ => rfl⟩, ?_, ?_⟩
  · intro hm'
    rcases List.mem_cons.mp hm' with e | hm'
    · exact absurd F.ns.lt (e ▸ Nat.lt_irrefl _)
    · exact (N _ hm).2.1 (List.mem_singleton.mp hm').symm
  · intro b hb
    rw [List.mem_singleton.mp hb]
    exact next_is_new F
  · intro p hp hI
    exact absurd (Heap.lt_size (N p (hs p hp)).1) ((List.mem_singleton.mp hI) ▸ Nat.lt_irrefl _)
  · rintro i v m₁ news₁ s₁ own ⟨hh', tk', rfl⟩ hin hP ⟨rfl, hJ⟩ hoff _ _ _ _ F₁ N₁
    have hv : v ∈ vs := by
      have hP' : vs[i]? = some v := by simpa using hP
      exact List.mem_of_getElem? hP'
    have N₂ : News h₀ env.locals hh' (news₁ ++ own) := fun p hp => N₁ p ((List.mem_append.mp hp).elim (fun h => List.mem_append.mpr (.inr h)) fun h => List.mem_append.mpr (.inl h))
    refine wpAny_mono (turn v m₁ hh' tk' own hv (forget_frx hJ F₁) N₂) (fun f s₂ p => ?_) fun _ _ e => e
    have fin : ErrsEnd h₀ env.locals forgot m₀ news₁ own { s with heap := hh', toks := tk' } s₂ → LoopStepU h₀ env.locals [s.heap.objs.size] own (fun m₁ news₂ => news₂ = news₁ ∧ ∀ y, forgot.contains y = false → m₁ y = m₀ y) { s with heap := hh', toks := tk' } .next s₂ := by
      rintro ⟨h', tk, m', news', e, F', N', hn, ho, hm'⟩
      exact ⟨rfl, h', tk, m', news₁, e, F', fun p hp => N' p ((List.mem_append.mp hp).elim (ho p) (hn p)), hoff, rfl, hm'⟩
    cases f with
    | ret v => exact .ret p
    | brk => exact .brk p
    | next => exact .next (fin p)
    | cont => exact .cont (fin p)
  · rintro h' tk m' news' F' N' _ ⟨rfl, hJ⟩
    exact done m' h' tk (forget_fr hJ F') N'

/-- a turn's end: the name holds a list of ints that `P` holds of; the ledger `news` and every name but the forgotten ones are kept -/
def TurnEnd (h₀ : Heap) (L : Addr) (name : Str) (P : List Int → Prop) (forgot : List Str) (m₀ : Str → Option Value) (news own : List (Addr × Obj)) (s₁ s₂ : Shared) : Prop :=
  ∃ h' tk m' news' a ws es n, s₂ = { s₁ with heap := h', toks := tk } ∧ Fr h₀ L h' m' ∧ News h₀ L h' news' ∧ (a, W.listOf ws.toArray n) ∈ news' ∧ (∀ p ∈ news, p ∈ news') ∧ (∀ p ∈ own, p ∈ news') ∧ IntsAre ws es ∧ P es ∧ m' name = some (.ref a) ∧
    ∀ y, y ≠ name → forgot.contains y = false → m' y = m₀ y
def TurnPost (h₀ : Heap) (L : Addr) (name : Str) (P : List Int → Prop) (forgot : List Str) (m₀ : Str → Option Value) (news own : List (Addr × Obj)) (s₁ : Shared) (Q : Flow → Shared → Prop) (f : Flow) (s₂ : Shared) : Prop :=
  match f with
  | .ret v => Q (.ret v) s₂
  | .brk => Q .next s₂
  | _ => TurnEnd h₀ L name P forgot m₀ news own s₁ s₂
theorem turn_frx {h : Heap} {L a : Addr} {name : Str} {forgot : List Str} {m₁ : Str → Option Value} {v : Value} (ha : m₁ name = some (.ref a)) (hm : ∀ y, y ≠ name → forgot.contains y = false → m₁ y = m₀ y) (F : Fr h₀ L h (fun y => if y = x then some v else m₁ y)) :
    Fr h₀ L h (fun y => if y = x then some v else if y = name then some (.ref a) else if forgot.contains y then m₁ y else m₀ y) := by
  have e : (fun y => if y = x then some v else if y = name then some (Value.ref a) else if forgot.contains y then m₁ y else m₀ y) = fun y => if y = x then some v else m₁ y := by
    funext y
    by_cases hy : y = x
    · rw [if_pos hy, if_pos hy]
    · rw [if_neg hy, if_neg hy]
      by_cases hn : y = name
      · rw [if_pos hn, hn, ha]
      · rw [if_neg hn]
        cases h3 : forgot.contains y with
        | true => simp
        | false => simp only [Bool.false_eq_true, if_false]; exact (hm y hn h3).symm
  rw [e]
  exact F
theorem turn_fr {h : Heap} {L : Addr} {name : Str} {forgot : List Str} {m₁ : Str → Option Value} (hm : ∀ y, y ≠ name → forgot.contains y = false → m₁ y = m₀ y) (F : Fr h₀ L h m₁) : Fr h₀ L h (fun y => if y = name then m₁ y else if forgot.contains y then m₁ y else m₀ y) := by
  have e : (fun y => if y = name then m₁ y else if forgot.contains y then m₁ y else m₀ y) = m₁ := by
    funext y
    by_cases hn : y = name
    · rw [if_pos hn]
    · rw [if_neg hn]
      cases h3 : forgot.contains y with
      | true => simp
      | false => simp only [Bool.false_eq_true, if_false]; exact (hm y hn h3).symm
  rw [e]
  exact F
/-- a loop over a range in whose turns a name goes from list to list -/
theorem iter_turned {r a₀ : Addr} {k₀ k₁ : Int} {t₀ u₀ v₀ : Tok} {n n₀ : Nat} {ws₀ : List Value} {es₀ : List Int} (name : Str) (forgot : List Str) (P : Nat → List Int → Prop)
    (hh : A.handled = none) (hr : IsRange s.heap r k₀ k₁ 1 t₀ u₀ v₀) (hsmall : Builtin.Range.small k₀ k₁ 1 = true) (hn : Builtin.Range.rangeSize k₀ k₁ 1 = (n : Int)) (N : News h₀ env.locals s.heap all) (hs : ∀ p ∈ news, p ∈ all) (F : Fr h₀ env.locals s.heap m₀)
    (hm : (a₀, W.listOf ws₀.toArray n₀) ∈ all) (hi : IntsAre ws₀ es₀) (hp : P 0 es₀) (ha : m₀ name = some (.ref a₀))
    (turn : ∀ (i : Nat) (t : Tok) (a : Addr) (ws : List Value) (es : List Int) (nl : Nat) (u : Str → Option Value) h tk own, i < n → P i es → IntsAre ws es → Fr h₀ env.locals h (fun y => if y = x then some (.int (k₀ + (i : Int)) t) else if y = name then some (.ref a) else if forgot.contains y then u y else m₀ y) →
      News h₀ env.locals h ((a, W.listOf ws.toArray nl) :: (news ++ own)) →
      wpAny (model prog w) A (execs body env) (TurnPost h₀ env.locals name (P (i + 1)) forgot m₀ news own { s with heap := h, toks := tk } Q) E { s with heap := h, toks := tk })
    (done : ∀ (u : Str → Option Value) h tk, Fr h₀ env.locals h (fun y => if y = name then u y else if forgot.contains y then u y else m₀ y) → News h₀ env.locals h news → Q .next { s with heap := h, toks := tk }) :
    wpAny (model prog w) A (pyIter (.ref r)) (fun it s₂ => LoopAtV prog w A h₀ env x body Q E it s₂) E s := by
  refine wpAny_pyIter_range hr hsmall ?_
  have Wk : Walks prog w A s.heap.objs.size [s.heap.objs.size] [s.heap.objs.size] n (fun i v => i < n ∧ ∃ t, v = .int (k₀ + i * 1) t)
      (fun i h => IsRangeIter h s.heap.objs.size (k₀ + (i : Nat) * 1) ((n : Int) - (i : Nat)) 1) := (Walks.range hh _ k₀ 1 n).bound
  refine ⟨_, _, _, _, _, _, m₀, (a₀, W.listOf ws₀.toArray n₀) :: news, fun i m₁ news₁ => ∃ a ws es nl, news₁ = (a, W.listOf ws.toArray nl) :: news ∧ IntsAre ws es ∧ P i es ∧ m₁ name = some (.ref a) ∧ ∀ y, y ≠ name → forgot.contains y = false → m₁ y = m₀ y,
    rfl, Wk, ?_, ?_, ?_, (by show IsRangeIter _ _ _ _ _; rw [hn]; simpa using Heap.get?_push_size _ rfl), F.push _, ?_, ⟨a₀, ws₀, es₀, n₀, rfl, hi, hp, ha, fun _ _ _ => rfl⟩, ?_, ?_⟩
  · intro hm'
    exact absurd F.ns.lt ((List.mem_singleton.mp hm') ▸ Nat.lt_irrefl _)
  · intro b hb
    rw [List.mem_singleton.mp hb]
    exact next_is_new F
  · intro p hp' hI
    have hp2 : p ∈ all := by
      rcases List.mem_cons.mp hp' with rfl | h
      · exact hm
      · exact hs p h
    exact absurd (Heap.lt_size (N p hp2).1) ((List.mem_singleton.mp hI) ▸ Nat.lt_irrefl _)
  · intro p hp'
    have hp2 : p ∈ all := by
      rcases List.mem_cons.mp hp' with rfl | h
      · exact hm
      · exact hs p h
    exact ⟨Heap.get?_push_of_some _ (N p hp2).1, (N p hp2).2⟩
  · rintro i v m₁ news₁ s₁ own ⟨hh', tk', rfl⟩ hin ⟨_, t, rfl⟩ ⟨a, ws, es, nl, rfl, hi', hp', ha', hm'⟩ hoff _ _ hfull hst F₁ N₁
    have N₂ : News h₀ env.locals hh' ((a, W.listOf ws.toArray nl) :: (news ++ own)) := fun p hp => N₁ p (by
      rcases List.mem_cons.mp hp with rfl | hp
      · exact List.mem_append.mpr (.inr (.head _))
      · rcases List.mem_append.mp hp with hp | hp
        · exact List.mem_append.mpr (.inr (.tail _ hp))
        · exact List.mem_append.mpr (.inl hp))
    have e1 : k₀ + (i : Int) * 1 = k₀ + (i : Int) := by omega
    rw [e1] at F₁
    refine wpAny_mono (turn i t a ws es nl m₁ hh' tk' own hin hp' hi' (turn_frx ha' hm' F₁) N₂) (fun f s₂ p => ?_) fun _ _ e => e
    have fin : TurnEnd h₀ env.locals name (P (i + 1)) forgot m₀ news own { s with heap := hh', toks := tk' } s₂ →
        LoopStepU h₀ env.locals [s.heap.objs.size] own (fun m₁ news₁ => ∃ a ws es nl, news₁ = (a, W.listOf ws.toArray nl) :: news ∧ IntsAre ws es ∧ P (i + 1) es ∧ m₁ name = some (.ref a) ∧ ∀ y, y ≠ name → forgot.contains y = false → m₁ y = m₀ y) { s with heap := hh', toks := tk' } .next s₂ := by
      rintro ⟨h', tk, m', news', a', ws', es', n', e, F', N', h1, h2, h3, h4, h5, h6, h7⟩
      refine ⟨rfl, h', tk, m', (a', W.listOf ws'.toArray n') :: news, e, F', fun p hp => N' p ?_, fun p hp hI => ?_, a', ws', es', n', rfl, h4, h5, h6, h7⟩
      · rcases List.mem_append.mp hp with hp | hp
        · exact h3 p hp
        · rcases List.mem_cons.mp hp with rfl | hp
          · exact h1
          · exact h2 p hp
      · rcases List.mem_cons.mp hp with rfl | hp
        · have q1 := (N' _ h1).1
          have hst' : hh'.get? s.heap.objs.size = some _ := hst
          have q2 := (N' _ (h3 _ (hfull s.heap.objs.size (List.mem_singleton.mpr rfl) (next_is_new F) _ hst'))).1
          have q3 : a' = s.heap.objs.size := List.mem_singleton.mp hI
          subst q3
          rw [q1] at q2
          have q4 := congrArg (fun o => (Option.map Obj.cls o)) q2
          simp at q4
        · exact hoff p (.tail _ hp) hI
    cases f with
    | ret v => exact .ret p
    | brk => exact .brk p
    | next => exact .next (fin p)
    | cont => exact .cont (fin p)
  · rintro h' tk m' news' F' N' _ ⟨a, ws, es, nl, rfl, _, _, _, hm'⟩
    exact done m' h' tk (turn_fr hm' F') fun p hp => N' p (.tail _ hp)
end
theorem mod_all {l : List Int} : ∀ x ∈ l.map (fun k => k.fmod 36), 0 ≤ x ∧ x < 36 := by
  intro x hx
  obtain ⟨d, _, rfl⟩ := List.mem_map.mp hx
  exact ⟨fmod_lo _ (by decide), fmod_hi _ (by decide)⟩
theorem only_sign (ds : List Int) : ds.map signI = [] ++ ds.map signI ++ [] := by simp
theorem both_sign (a ds c : List Int) : a ++ ds.map signI ++ c = a ++ ds.map signI ++ c := rfl
theorem str_of3 {v : Value} {a b c : Str} {ta tb tc : Tok} (h : v ∈ [Value.str a ta, .str b tb, .str c tc]) : ∃ e t, v = .str e t := by
  rcases List.mem_cons.mp h with rfl | h
  · exact ⟨_, _, rfl⟩
  · rcases List.mem_cons.mp h with rfl | h
    · exact ⟨_, _, rfl⟩
    · exact ⟨_, _, List.mem_singleton.mp h⟩
section
variable {w : World} {mean : ExcName → Option Value} {mg mb : Str → Option Value} {dp un : Nat} {gd : Option (List Code)} {cn : Str} {cs : Scope} {a : Addr} {ccd : Value} {cl : List (Str × Addr)} {outer : List Env} {A₀ : Around} {base h₀ : Heap} {L : Addr} {m : Str → Option Value} {news : List (Addr × Obj)} {s : Shared} {Q E : Value → Shared → Prop}
/-- `around`: only its length is asked behind it; of the ledger the digits stay -/
theorem use_around {l D₀ : Addr} {vs : List Value} {ns : List Int} {n : Nat} {o₀ : Obj}
    (B : Below A₀ base outer h₀) (F : Fr h₀ L s.heap m) (X : (hd.heap_39 w.params).In h₀) (N : News h₀ L s.heap news) (T : Top hd.view_39 (looseW hd.view_39 []) mean mg mb h₀) (hk : cs.kind = .function) (hd : dp + 1 < recursionLimit) (hu : un + 8 < cLine)
    (_hD : m (Str.ofString "digits") = some (.ref D₀)) (hm₀ : (D₀, o₀) ∈ news)
    (hm : (l, W.listOf vs.toArray n) ∈ news) (hi : IntsAre vs ns) (hn : ∀ x ∈ ns, 0 ≤ x ∧ x < 36) (hlen : ns.length ≤ 63)
    (h : ∀ Bs t h' tk' aro, KBw.bInts Bs = aro → aro.length ≤ 63 → Fr h₀ L h' m → News h₀ L h' [(D₀, o₀)] → Q (.bytes Bs t) { s with heap := h', toks := tk' }) :
    wpAny (model Challenge.rw_dm0253_01.row.prog w) (ktrTop dp un gd cn cs L a ccd cl outer) (call (.ref 47) [.ref l]) Q E s :=
  use_signs B F X N T hk hd hu hm hi hn (by omega) fun Bs t h' tk' hb F' N' => h Bs t h' tk' _ hb (by rw [List.length_map]; exact hlen) F' fun p hp => N' p ((List.mem_singleton.mp hp) ▸ hm₀)
/-- one sign of nought -/
theorem use_decode1 {Bs : Array UInt8} {xs pre post : List Int} {p b : Int} {e : Str} {tx tp tb te : Tok}
    (B : Below A₀ base outer h₀) (F : Fr h₀ L s.heap m) (X : (hd.heap_39 w.params).In h₀) (N : News h₀ L s.heap news) (T : Top hd.view_39 (looseW hd.view_39 []) mean mg mb h₀) (hk : cs.kind = .function) (hd : dp + 3 < recursionLimit) (hu : un + 24 < cLine)
    (hB : KBw.bInts Bs = xs) (hx : xs = pre ++ [65] ++ post) (hsz : xs.length ≤ 1000) (hp : p = (pre.length : Int))
    (h : ∀ D t u n h' tk', Fr h₀ L h' m → News h₀ L h' ((D, { cls := .type "tuple", data := .seq #[.int ((pre.length : Int) + 1) t, .int 0 u] n }) :: news) → Q (.ref D) { s with heap := h', toks := tk' }) :
    wpAny (model Challenge.rw_dm0253_01.row.prog w) (ktrTop dp un gd cn cs L a ccd cl outer) (call (.ref 28) [.bytes Bs tx, .int p tp, .int b tb, .str e te]) Q E s := by
  refine use_decode (pre := pre) (post := post) (ds := [0]) B F X N T hk hd hu hB (by rw [hx]; rfl) hsz hp (good_one b) fun D t u n h' tk' F' N' => ?_
  have e : pv b [0] ([0] : List Int).length = 0 := by
    show 0 + (0 : Int) * _ = 0
    rw [Int.zero_mul]; rfl
  rw [e] at N'
  exact h D t u n h' tk' F' N'
end
section
variable {prog : Program} {w : World} {A : Around} {E : Value → Shared → Prop} {s : Shared} {env : Env} {h₀ : Heap} {x : Str} {body : List Stmt} {Q : Flow → Shared → Prop} {m₀ : Str → Option Value} {all : List (Addr × Obj)}
/-- the loop over the three words: the digits stay -/
theorem iter_errs1 {l D₀ : Addr} {o₀ : Obj} {vs : List Value} {n₁ : Nat} (hh : A.handled = none) (_hD : m₀ (Str.ofString "digits") = some (.ref D₀)) (hm₀ : (D₀, o₀) ∈ all) (hm : (l, W.listOf vs.toArray n₁) ∈ all) (N : News h₀ env.locals s.heap all) (F : Fr h₀ env.locals s.heap m₀)
    (turn : ∀ (v : Value) (u : Str → Option Value) h tk own, v ∈ vs → Fr h₀ env.locals h (fun y => if y = x then some v else if [Str.ofString "errors", Str.ofString "turned", Str.ofString "first", Str.ofString "step", Str.ofString "signs"].contains y then u y else m₀ y) → News h₀ env.locals h ((D₀, o₀) :: own) →
      wpAny (model prog w) A (execs body env) (ErrsPost h₀ env.locals [Str.ofString "errors", Str.ofString "turned", Str.ofString "first", Str.ofString "step", Str.ofString "signs"] m₀ [(D₀, o₀)] own { s with heap := h, toks := tk } Q) E { s with heap := h, toks := tk })
    (done : ∀ (u : Str → Option Value) h tk, Fr h₀ env.locals h (fun y => if [Str.ofString "errors", Str.ofString "turned", Str.ofString "first", Str.ofString "step", Str.ofString "signs"].contains y then u y else m₀ y) → News h₀ env.locals h [(D₀, o₀)] → Q .next { s with heap := h, toks := tk }) :
    wpAny (model prog w) A (pyIter (.ref l)) (fun it s₂ => LoopAtV prog w A h₀ env x body Q E it s₂) E s :=
  iter_errs (news := [(D₀, o₀)]) _ hh hm N (fun _ hp => (List.mem_singleton.mp hp) ▸ hm₀) F turn done
end
/-- the i-th number behind ds -/
def Steps (b : Int) (ds : List Int) (i : Nat) (es : List Int) : Prop := Good b es ∧ pv b es es.length = pv b ds ds.length + (i : Int) ∧ es.length ≤ 64 + i
theorem Steps.next {b : Int} {ds es es' : List Int} {i : Nat} (h1 : pv b es es.length = pv b ds ds.length + (i : Int)) (h2 : es.length ≤ 64 + i) (u : OneUp b es es') : Steps b ds (i + 1) es' := by
  obtain ⟨g, v, l⟩ := u
  exact ⟨g, by omega, by omega⟩
/-- the ledger that an outer loop must find again -/
structure OwnMark (own : List (Addr × Obj)) : Prop where
  mark :: (one : True)
section
variable {prog : Program} {w : World} {A : Around} {E : Value → Shared → Prop} {s : Shared} {env : Env} {h₀ : Heap} {x : Str} {body : List Stmt} {Q : Flow → Shared → Prop} {m₀ : Str → Option Value} {all rest : List (Addr × Obj)}
theorem iter_steps {r a₀ : Addr} {t₀ u₀ v₀ : Tok} {n₀ : Nat} {ws₀ : List Value} {b : Int} {ds : List Int} (_hw : OwnMark rest)
    (hh : A.handled = none) (hr : IsRange s.heap r 0 65 1 t₀ u₀ v₀) (N : News h₀ env.locals s.heap all) (F : Fr h₀ env.locals s.heap m₀) (ha : m₀ (Str.ofString "turned") = some (.ref a₀))
    (hm : (a₀, W.listOf ws₀.toArray n₀) ∈ all) (hs : ∀ p ∈ rest, p ∈ all) (hi : IntsAre ws₀ ds) (hg : Good b ds) (hz : ds.length ≤ 64)
    (turn : ∀ (i : Nat) (t : Tok) (a : Addr) (ws : List Value) (es : List Int) (nl : Nat) (u : Str → Option Value) h tk own, i < 65 → Good b es → pv b es es.length = pv b ds ds.length + (i : Int) → es.length ≤ 64 + i → IntsAre ws es →
      Fr h₀ env.locals h (fun y => if y = x then some (.int (i : Int) t) else if y = Str.ofString "turned" then some (.ref a) else if [Str.ofString "step", Str.ofString "signs"].contains y then u y else m₀ y) →
      News h₀ env.locals h ((a, W.listOf ws.toArray nl) :: (a₀, W.listOf ws₀.toArray n₀) :: (rest ++ own)) →
      wpAny (model prog w) A (execs body env) (TurnPost h₀ env.locals (Str.ofString "turned") (Steps b ds (i + 1)) [Str.ofString "step", Str.ofString "signs"] m₀ ((a₀, W.listOf ws₀.toArray n₀) :: rest) own { s with heap := h, toks := tk } Q) E { s with heap := h, toks := tk })
    (done : ∀ (u : Str → Option Value) h tk, Fr h₀ env.locals h (fun y => if y = Str.ofString "turned" then u y else if [Str.ofString "step", Str.ofString "signs"].contains y then u y else m₀ y) → News h₀ env.locals h ((a₀, W.listOf ws₀.toArray n₀) :: rest) → Q .next { s with heap := h, toks := tk }) :
    wpAny (model prog w) A (pyIter (.ref r)) (fun it s₂ => LoopAtV prog w A h₀ env x body Q E it s₂) E s := by
  refine iter_turned (n := 65) (news := (a₀, W.listOf ws₀.toArray n₀) :: rest) (Str.ofString "turned") [Str.ofString "step", Str.ofString "signs"] (Steps b ds) hh hr (by decide) (by decide) N (fun p hp => ?_) F hm hi ⟨hg, by simp, by omega⟩ ha ?_ done
  · rcases List.mem_cons.mp hp with rfl | hp
    · exact hm
    · exact hs p hp
  · rintro i t a ws es nl u h tk own hlt ⟨g, v, l⟩ hi' F' N'
    rw [Int.zero_add] at F'
    exact turn i t a ws es nl u h tk own hlt g v l hi' F' N'
theorem turn_end {L a a₀ : Addr} {o₀ : Obj} {h' : Heap} {tk n i : Nat} {m' : Str → Option Value} {news' own : List (Addr × Obj)} {s₁ : Shared} {ws : List Value} {es es' ds : List Int} {b : Int}
    (F : Fr h₀ L h' m') (N : News h₀ L h' news') (ha : m' (Str.ofString "turned") = some (.ref a)) (h1 : (a, W.listOf ws.toArray n) ∈ news') (h2 : (a₀, o₀) ∈ news') (h3 : ∀ p ∈ rest, p ∈ news') (h4 : ∀ p ∈ own, p ∈ news')
    (hi : IntsAre ws es') (hu : OneUp b es es') (hv : pv b es es.length = pv b ds ds.length + (i : Int)) (hz : es.length ≤ 64 + i) (hm : ∀ y, y ≠ Str.ofString "turned" → [Str.ofString "step", Str.ofString "signs"].contains y = false → m' y = m₀ y) :
    TurnEnd h₀ L (Str.ofString "turned") (Steps b ds (i + 1)) [Str.ofString "step", Str.ofString "signs"] m₀ ((a₀, o₀) :: rest) own s₁ { s₁ with heap := h', toks := tk } :=
  ⟨h', tk, m', news', a, ws, es', n, rfl, F, N, h1, List.forall_mem_cons.mpr ⟨h2, h3⟩, h4, hi, Steps.next hv hz hu, ha, hm⟩
theorem errs_end {L a₀ : Addr} {o₀ : Obj} {h' : Heap} {tk : Nat} {m' : Str → Option Value} {news' own : List (Addr × Obj)} {s₁ : Shared} {forgot : List Str}
    (F : Fr h₀ L h' m') (N : News h₀ L h' news') (h2 : (a₀, o₀) ∈ news') (h4 : ∀ p ∈ own, p ∈ news') (hm : ∀ y, forgot.contains y = false → m' y = m₀ y) :
    ErrsEnd h₀ L forgot m₀ [(a₀, o₀)] own s₁ { s₁ with heap := h', toks := tk } :=
  ⟨h', tk, m', news', rfl, F, N, List.forall_mem_cons.mpr ⟨h2, List.forall_mem_nil _⟩, h4, hm⟩
end
local macro_rules | `(tactic| walk_at "call ref") => `(tactic| (k_here; (with_reducible show wpAny _ _ (call (Value.ref _) _) _ _ _); refine Wait.out ?_))
local macro_rules | `(tactic| walk_at "execs cons Assign cons") => `(tactic| (refine wpAny_execs_cons ?_))
local macro_rules | `(tactic| walk_at "exec If Compare cons nil") => `(tactic| (
  k_here; (fail_if_success (rename BiasMark => hx9)); (rename Fr _ _ _ _ => lF9); (rename News _ _ _ _ => lN9);
  k_dflt (refine join_bias lF9 lN9 ?kA ?kB);
  (case' kB => (clear lF9 lN9; intro h' tk9 b9 t9 F' N'; have hBM9 := BiasMark.mark trivial))))
local macro_rules | `(tactic| walk_at "subscriptTail Name Constant ref int") => `(tactic| (
  k_here; (rename (decide (_ = []) = false) => hd9); (have hp9 := pos_of_ne hd9);
  k_dflt (refine ksa_sub (by assumption) (by k_mem) (by assumption) (by decide) (by omega) (by decide) ?_ (by with_unfolding_all rfl)); intro t9))
local macro_rules | `(tactic| walk_at "BiasSet") => `(tactic| first
  | exact bias_then (by assumption) (by assumption) (by k_sub)
  | exact bias_else (by assumption) (by assumption) rfl (by k_sub))
local macro_rules | `(tactic| walk_at "exec For Name Subscript cons nil") => `(tactic| (
  k_here; (rename Fr _ _ _ _ => lF9); (with_unfolding_all refine' For_invVF lF9 ?k1 ?k2 ?_; (case k1 => exact rfl); (case k2 => exact rfl); k_whole)))
local macro_rules | `(tactic| walk_at "subscriptTail Name UnaryOp ref int") => `(tactic| (
  k_here; (rename (decide (_ = []) = false) => hd9); (have hp9 := pos_of_ne hd9);
  k_dflt (refine last_item (by assumption) (by k_mem) (by assumption) hp9 (by omega) ?_); intro t9))
local macro_rules | `(tactic| walk_at "exec If BoolOp cons nil") => `(tactic| (
  k_here; (fail_if_success (rename OwnOff _ _ => hx9)); (fail_if_success (rename GoodMark => hx9)); (rename Fr _ _ _ _ => lF9); (rename News _ _ _ _ => lN9);
  k_dflt (refine join_good lF9 lN9 rfl rfl rfl (by k_mem) ?kAg ?kBg);
  (case' kBg => (clear lF9 lN9; intro u9 h' tk9 ws9 ds9 n9 hi9 hg9 hz9 F' N'; (have hBM9 := GoodMark.mark trivial); refine Wait.out ?_))))
local macro_rules | `(tactic| walk_at "GoodSet") => `(tactic| first
  | exact good_app (by assumption) (by assumption) (by k_mem) (by k_mem) (by assumption) (by assumption) (.inl (of_decide_eq_true (by assumption))) (by omega)
  | exact good_app (by assumption) (by assumption) (by k_mem) (by k_mem) (by assumption) (by assumption) (part_or (by assumption) (by assumption)) (by omega)
  | exact good_stay (by assumption) (by assumption) (by k_mem) (by k_mem) (by assumption) (by assumption) (by assumption) (by assumption) (by omega))
local macro_rules | `(tactic| walk_at "call ref") => `(tactic| (
  k_here; (with_reducible show wpAny _ _ (call (Value.ref 47) [Value.ref _]) _ _ _);
  k_dflt (refine' use_around ?k1 ?k2 ?k3 ?k4 ?k5 ?k6 ?k7 ?k8 ?kD ?kE ?km ?ki ?kn ?kl ?_; (case k1 => k_asm); (case k2 => k_asm); (case k3 => k_asm); (case k4 => k_asm); (case k5 => k_asm); (case k6 => first | exact rfl | assumption); (case k7 => ktr_room); (case k8 => ktr_units); (case kD => exact rfl); (case kE => k_mem); (case km => k_mem); (case ki => assumption); (case kn => exact mod_all); (case kl => (simp only [List.length_map]; omega)));
  intro Bs9 t9 h' tk9 aro9 hB9 hA9 F' N'; (try k_sweep)))
local macro_rules | `(tactic| walk_at "call ref") => `(tactic| (
  k_here; (with_reducible show wpAny _ _ (call (Value.ref 47) [Value.ref _]) _ _ _); (rename Good _ _ => hg9);
  k_dflt (refine' use_signs ?k1 ?k2 ?k3 ?k4 ?k5 ?k6 ?k7 ?k8 ?km ?ki ?kn ?kl ?_; (case k1 => k_asm); (case k2 => k_asm); (case k3 => k_asm); (case k4 => k_asm); (case k5 => k_asm); (case k6 => first | exact rfl | assumption); (case k7 => ktr_room); (case k8 => ktr_units); (case km => k_mem); (case ki => assumption); (case kn => exact Good.all (by assumption)); (case kl => omega));
  intro Bs9 t9 h' tk9 hB9 F' N'; (try k_sweep)))
local macro_rules | `(tactic| walk_at "call ref") => `(tactic| (
  k_here; (with_reducible show wpAny _ _ (call (Value.ref 42) [Value.ref _, Value.int _ _]) _ _ _);
  k_dflt (refine' use_next ?k1 ?k2 ?k3 ?k4 ?k5 ?k6 ?k7 ?k8 ?km ?ki ?kg ?kl ?_; (case k1 => k_asm); (case k2 => k_asm); (case k3 => k_asm); (case k4 => k_asm); (case k5 => k_asm); (case k6 => first | exact rfl | assumption); (case k7 => ktr_room); (case k8 => ktr_units); (case km => k_mem); (case ki => assumption); (case kg => assumption); (case kl => omega));
  intro D9 ws9 es9 n9 h' tk9 hi9 hu9 F' N'; (try k_sweep)))
local macro_rules | `(tactic| walk_at "call ref") => `(tactic| (
  k_here; (with_reducible show wpAny _ _ (call (Value.ref 28) [Value.bytes _ _, Value.int _ _, Value.int _ _, Value.str _ _]) _ _ _);
  k_dflt (refine' use_decode1 ?k1 ?k2 ?k3 ?k4 ?k5 ?k6 ?k7 ?k8 ?kb ?kx ?kz ?kp ?_; (case k1 => k_asm); (case k2 => k_asm); (case k3 => k_asm); (case k4 => k_asm); (case k5 => k_asm); (case k6 => first | exact rfl | assumption); (case k7 => ktr_room); (case k8 => ktr_units); (case kb => assumption); (case kx => exact rfl); (case kz => (simp only [List.length_append, List.length_map, List.length_cons, List.length_nil]; omega)); (case kp => exact rfl));
  intro D9 t9 u9 n9 h' tk9 F' N'; (try k_sweep)))
local macro_rules | `(tactic| walk_at "call ref") => `(tactic| (
  k_here; (with_reducible show wpAny _ _ (call (Value.ref 28) [Value.bytes _ _, Value.int _ _, Value.int _ _, Value.str _ _]) _ _ _);
  k_dflt (refine' use_decode ?k1 ?k2 ?k3 ?k4 ?k5 ?k6 ?k7 ?k8 ?kb ?kx ?kz ?kp ?kg ?_; (case k1 => k_asm); (case k2 => k_asm); (case k3 => k_asm); (case k4 => k_asm); (case k5 => k_asm); (case k6 => first | exact rfl | assumption); (case k7 => ktr_room); (case k8 => ktr_units); (case kb => assumption); (case kx => first | exact both_sign _ _ _ | exact only_sign _); (case kz => (simp only [List.length_append, List.length_map]; omega)); (case kp => first | exact rfl | simp); (case kg => assumption));
  intro D9 t9 u9 n9 h' tk9 F' N'; (try k_sweep)))
local macro_rules | `(tactic| walk_at "exec For Name List cons nil") => `(tactic| (
  k_here; (rename Fr _ _ _ _ => lF9); (with_unfolding_all refine' For_invVF lF9 ?k1 ?k2 ?_; (case k1 => exact rfl); (case k2 => exact rfl); k_whole)))
local macro_rules | `(tactic| walk_at "pyIter ref") => `(tactic| (
  k_here; (with_reducible show wpAny _ _ (pyIter (Value.ref _)) (fun it s₂ => LoopAtV _ _ _ _ _ (Str.ofString "errors") _ _ _ it s₂) _ _);
  (rename Fr _ _ _ _ => lF9); (rename News _ _ _ _ => lN9);
  (with_unfolding_all refine' iter_errs1 ?kh ?kd ?ke ?km lN9 lF9 ?kAe ?kBe);
  (case kh => k_dflt exact rfl); (case kd => k_dflt exact rfl); (case ke => k_dflt k_mem); (case km => k_dflt k_mem);
  (case' kAe => (clear lF9 lN9; intro v9 u9 h' tk9 own9 hv9 F' N'; (obtain ⟨e9, te9, hv9⟩ := str_of3 hv9); (subst hv9); (have hOM9 := @OwnMark.mark own9 trivial)));
  (case' kBe => (clear lF9 lN9; intro u9 h' tk9 F' N'))))
local macro_rules | `(tactic| walk_at "call ref") => `(tactic| (
  k_here; (with_reducible show wpAny _ _ (call (Value.ref 35) [Value.int _ _, Value.int _ _]) _ _ _);
  k_dflt (refine' use_least ?k1 ?k2 ?k3 ?k4 ?k5 ?k6 ?k7 ?k8 ?_; (case k1 => k_asm); (case k2 => k_asm); (case k3 => k_asm); (case k4 => k_asm); (case k5 => k_asm); (case k6 => first | exact rfl | assumption); (case k7 => ktr_room); (case k8 => ktr_units));
  intro t9 h' tk9 hlo9 hhi9 F' N'; (try k_sweep)))
local macro_rules | `(tactic| walk_at "exec For Name Call cons nil") => `(tactic| (
  k_here; (rename Fr _ _ _ _ => lF9); (with_unfolding_all refine' For_invVF lF9 ?k1 ?k2 ?_; (case k1 => exact rfl); (case k2 => exact rfl); k_whole)))
local macro_rules | `(tactic| walk_at "pyIter ref") => `(tactic| (
  k_here; (with_reducible show wpAny _ _ (pyIter (Value.ref _)) (fun it s₂ => LoopAtV _ _ _ _ _ (Str.ofString "step") _ _ _ it s₂) _ _);
  (rename Fr _ _ _ _ => lF9); (rename News _ _ _ _ => lN9);
  (with_unfolding_all refine' iter_steps ?kw ?kh ?kr lN9 lF9 ?ka ?km ?ks ?ki ?kg ?kz ?kAs ?kBs);
  (case kw => k_dflt assumption); (case kh => k_dflt exact rfl); (case kr => k_dflt assumption); (case ka => k_dflt exact rfl); (case km => k_dflt k_mem); (case ks => k_dflt (intro p hp; kst_mem)); (case ki => k_dflt assumption); (case kg => k_dflt assumption); (case kz => k_dflt assumption);
  (case' kAs => (clear lF9 lN9; intro i9 t9 a9 ws9 es9 nl9 u9 h' tk9 own9 hlt9 hg9 hv9 hl9 hi9 F' N'));
  (case' kBs => (clear lF9 lN9; intro u9 h' tk9 F' N'))))
local macro_rules | `(tactic| walk_at "ErrsPost") => `(tactic| (dsimp only [ErrsPost]))
local macro_rules | `(tactic| walk_at "TurnPost") => `(tactic| (dsimp only [TurnPost]))
local macro_rules | `(tactic| walk_at "TurnEnd") => `(tactic| k_dflt (
  refine turn_end (by assumption) (by assumption) (by rfl) (by k_mem) (by k_mem) (by (intro p hp; kst_mem)) (by (intro p hp; kst_mem)) (by assumption) (by assumption) (by assumption) (by assumption) ?kq;
  (case kq => (intro y h1 h2; (simp only [List.contains_cons, List.contains_nil, Bool.or_false, Bool.or_eq_false_iff, beq_eq_false_iff_ne, ne_eq] at h2); simp [h1, h2]))))
local macro_rules | `(tactic| walk_at "ErrsEnd") => `(tactic| k_dflt (
  refine errs_end (by assumption) (by assumption) (by k_mem) (by (intro p hp; kst_mem)) ?kq;
  (case kq => (intro y h2; (simp only [List.contains_cons, List.contains_nil, Bool.or_false, Bool.or_eq_false_iff, beq_eq_false_iff_ne, ne_eq] at h2); simp [h2]))))
set_option maxRecDepth 100000 in
set_option maxHeartbeats 8000000 in
theorem law_holds : PySem.Challenge.rw_dm0253_01.Holds := by
  refine hd ?_
  w_on
  w_strict k_go0
  all_goals (try k_fold)
  k_with_none
  k_with "state" => exact part_app (by assumption) (by assumption) (.inl (of_decide_eq_true (by assumption)))
  k_with "state" => exact part_app (by assumption) (by assumption) (part_or (by assumption) (by assumption))
  k_with "state" => exact ⟨Part.nil _, Nat.le_refl _⟩
  k_with "pyIter ref" => k_state_given ["bias"] (fun b pre ds => Part b ds ∧ ds.length ≤ pre.length) "digits"
  k_steps
  refine Wait.in ?_
  dsimp only
  k_fold
  k_steps
end Mine

theorem PySem.Challenge.cw_dm0253_01_holds : PySem.Challenge.rw_dm0253_01.Holds := by
  exact Mine.law_holds
