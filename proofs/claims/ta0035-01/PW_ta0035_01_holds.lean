import PyProof.Rows.All
import Wide.All
import OpenK.AllK
import Wide.FinOn
import PySem.Challenge.RW_ta0035_01
set_option Elab.async false

section
open PySem PySem.W PyProof.Rows
set_option Elab.async false
namespace Mine
set_option maxRecDepth 100000 in
set_option maxHeartbeats 8000000 in
open_top hd for PySem.Challenge.rw_ta0035_01
end Mine
end

section
open PySem PySem.W PySem.Calls PyProof.Rows
set_option Elab.async false
namespace Mine
set_option maxRecDepth 100000

/-- the goal as one letter, while a fact is taken apart: what is taken apart names the goal each time, and that costs room -/
theorem gen_goal {P : Prop} (h : ∀ X : Prop, (P → X) → X) : P := h P id

theorem sub_step {n k : Nat} (h : k < n) : n - (k + 1) < n - k := Nat.sub_lt_sub_left h (Nat.lt_succ_self k)
theorem sub_one {n k : Nat} (h : k < n) : n - (k + 1) + 1 = n - k := Nat.succ_pred_eq_of_pos (Nat.sub_pos_of_lt h)
theorem sub_down {n k : Nat} (h : k < n) : n - (k + 1) < n := Nat.sub_lt (Nat.lt_of_le_of_lt (Nat.zero_le k) h) (Nat.succ_pos k)
theorem it_a (i : Nat) : (0 + ((i + 1 : Nat) : Int) * 1) = 0 + (i : Int) * 1 + 1 := by omega
theorem it_b (n i : Nat) : ((n : Int) - ((i + 1 : Nat) : Int)) = (n : Int) - (i : Int) - 1 := by omega
theorem it_c (i : Nat) : (0 + (i : Int) * 1) = (i : Int) := by omega
theorem it_d {n i : Nat} (h : i < n) : (0 : Int) < (n : Int) - (i : Int) := Int.sub_pos_of_lt (Int.ofNat_lt.mpr h)
theorem it_e (n : Nat) : (n : Int) - (n : Int) ≤ 0 := Int.le_of_eq (Int.sub_self _)
theorem mod3 (z : Int) : z % 3 = 0 ∨ z % 3 = 1 ∨ z % 3 = 2 := by omega
theorem lt3 {i : Nat} (h : i < 3) : i = 0 ∨ i = 1 ∨ i = 2 := by omega
theorem rng_lt {x l u a b : Int} (h : l ≤ x ∧ x ≤ u) (h1 : a ≤ l) (h2 : u < b) : a ≤ x ∧ x < b := ⟨Int.le_trans h1 h.1, Int.lt_of_le_of_lt h.2 h2⟩
theorem rng_le {x l u a b : Int} (h : l ≤ x ∧ x ≤ u) (h1 : a ≤ l) (h2 : u ≤ b) : a ≤ x ∧ x ≤ b := ⟨Int.le_trans h1 h.1, Int.le_trans h.2 h2⟩
theorem rng_add {x y l u l' u' a b : Int} (h : l ≤ x ∧ x ≤ u) (h' : l' ≤ y ∧ y ≤ u') (h1 : a ≤ l + l') (h2 : u + u' ≤ b) : a ≤ x + y ∧ x + y ≤ b :=
  ⟨Int.le_trans h1 (Int.add_le_add h.1 h'.1), Int.le_trans (Int.add_le_add h.2 h'.2) h2⟩

/-- body and scope of a def -/
noncomputable def fnPart : Option Stmt → List Stmt × Scope
  | some (.FunctionDef _ _ b _ _ _ sc _ _ _) => (b, sc)
  | _ => ([], default)

/-- what is known of the text's own part -/
structure Gd (w : World) (lo : List Str) (mean : ExcName → Option Value) (mg mb : Str → Option Value) (g : Heap) : Prop where
  X : (hd.heap_39 w.params).In g
  T : Top topProg lo mean mg mb g

abbrev prog0 : Program := PySem.Challenge.rw_ta0035_01.row.prog

structure Amb (A : Around) (k : Nat) : Prop where
  hh : A.handled = none
  dep : A.depth + k ≤ 900
  un : A.units + 10 * k ≤ 9000

theorem Amb.deeper {A : Around} {k : Nat} (x : Amb A (k + 1)) (env : Env) : Amb (A.deeper env) k :=
  ⟨x.hh, by have := x.dep; show A.depth + 1 + k ≤ 900; omega, by have := x.un; show A.units + 3 + 10 * k ≤ 9000; omega⟩
theorem Amb.in1 {A : Around} {k : Nat} (x : Amb A (k + 1)) : Amb A.in1 k :=
  ⟨x.hh, by have := x.dep; show A.depth + k ≤ 900; omega, by have := x.un; show A.units + 1 + 10 * k ≤ 9000; omega⟩
theorem Amb.le {A : Around} {k j : Nat} (x : Amb A k) (h : j ≤ k) : Amb A j :=
  ⟨x.hh, by have := x.dep; omega, by have := x.un; omega⟩
theorem Amb.room {A : Around} {k : Nat} (x : Amb A k) : A.depth < recursionLimit := by
  have := x.dep; show A.depth < 1000; omega
theorem Amb.units {A : Around} {k : Nat} (x : Amb A k) : A.units < cLine := by
  have := x.un; show A.units < 9900; omega

section
variable {w : World} {A : Around} {s : Shared} {lo : List Str} {mean : ExcName → Option Value} {mg mb : Str → Option Value}

/-- a call of a def without cells -/
theorem enter {R : Result → Shared → Prop} {name qual : Str} {params : Arguments} {body : List Stmt} {scope : Scope} {dV kV doc pm cdv ct oc : Value} {an od : Option Addr} {osl : Array (Option Value)} {f : Addr} {args : Args} {binds : List (Str × Value)}
    (G : Gd w lo mean mg mb s.heap) {k : Nat} (hA : Amb A (k + 1))
    (ho : (hd.heap_39 w.params).lookup f = some ⟨oc, od, .func (fnOf name qual params body scope dV kV doc pm an cdv ct), osl⟩) (hcd : codeIn (hd.heap_39 w.params) cdv qual = true)
    (hbind : BindsTo s (fnOf name qual params body scope dV kV doc pm an cdv ct) args binds) (hloc : ∀ y ∈ binds, scope.names.lookup y.1 = some .local)
    (hco : scope.isCoroutine = false) (hgen : scope.isGenerator = false) (hk : scope.kind = .function) (hcell : ∀ x ∈ scope.names, x.2 ≠ .cell)
    (h : ∀ L h₁ tk, Fr s.heap L h₁ (fun y => binds.reverse.lookup y) → News s.heap L h₁ [] → Amb (A.deeper (envX qual scope L f cdv [])) k →
      wpAny (model prog0 w) (A.deeper (envX qual scope L f cdv [])) (execs body (envX qual scope L f cdv []))
        (fun fl s' => R (.ok (.ret (match fl with | .ret v => v | _ => .none))) s') (fun _ _ => False)
        { s with heap := h₁, toks := tk }) :
    codeAny (model prog0 w) A (.call (.ref f) args) R s := by
  refine codeAny_call_def (fd := fnOf name qual params body scope dV kV doc pm an cdv ct) (body := body) (binds := binds) hA.room (G.X _ _ ho) rfl G.T.nolimit (codeRec_of G.X hcd) rfl hbind hcell hloc (fun h₁ hns hk₁ => ?_) hco hgen hk
  exact wpAny_mono (h _ h₁ _ ⟨hns, hk₁, Nat.le_refl _⟩ News.nil (hA.deeper _)) (fun _ _ x => x) fun _ _ x => x.elim
end
noncomputable def Stop (P : Prop) : Prop := P
theorem Stop.intro {P : Prop} (h : Stop P) : P := h
theorem Stop.out {P : Prop} (h : P) : Stop P := h

theorem Fr_congr {h₀ h : Heap} {L : Addr} {m m' : Str → Option Value} (F : Fr h₀ L h m) (e : ∀ y, m y = m' y) : Fr h₀ L h m' := (funext e : m = m') ▸ F

/-- what a while's turn comes to -/
noncomputable def WEnd (I : Nat → Shared → Prop) (Q : Flow → Shared → Prop) (n : Nat) (f : Flow) (s : Shared) : Prop := match f with
  | .next | .cont => ∃ m, m < n ∧ I m s
  | .brk => Q .next s
  | .ret v => Q (.ret v) s

theorem while_rule {prog : Program} {w : World} {A : Around} {s : Shared} {test : PySem.Expr} {body orelse : List Stmt} {env : Env} {pos : Pos} {Q : Flow → Shared → Prop} (I : Nat → Shared → Prop)
    (turn : ∀ n s, I n s → wpAny (model prog w) A (isTrue test env (eval test env)) (fun b s₂ =>
        if b then wpAny (model prog w) A (execs body env) (WEnd I Q n) (fun _ _ => False) s₂
        else wpAny (model prog w) A (execs orelse env) (fun f s₃ => Q f s₃) (fun _ _ => False) s₂) (fun _ _ => False) s)
    (n : Nat) (h : I n s) : wpAny (model prog w) A (exec (.While test body orelse pos) env) Q (fun _ _ => False) s := by
  refine wpAny_While (codeAny_whileLoop I (fun n s hI => ?_) n h)
  refine wpAny_mono (turn n s hI) (fun b s₂ h₂ => ?_) fun _ _ x => x.elim
  cases b
  · simp only [Bool.false_eq_true, if_false] at h₂ ⊢
    exact wpAny_mono h₂ (fun _ _ x => x) fun _ _ x => x.elim
  · simp only [if_true] at h₂ ⊢
    exact wpAny_mono h₂ (fun f _ x => by cases f <;> exact x) fun _ _ x => x.elim


theorem Fr.keepsAll {h₀ h h' : Heap} {L : Addr} {m : Str → Option Value} (F : Fr h₀ L h m) (hk : ∀ b o, h.get? b = some o → h'.get? b = some o) : Fr h₀ L h' m :=
  ⟨F.ns.keeps hk, fun b o e => hk b o (F.keep b o e), F.above⟩
theorem News.keepsAll {h₀ h h' : Heap} {L : Addr} {news : List (Addr × Obj)} (N : News h₀ L h news) (hk : ∀ b o, h.get? b = some o → h'.get? b = some o) : News h₀ L h' news :=
  fun p hp => ⟨hk _ _ (N p hp).1, (N p hp).2⟩
theorem Gd.keeps {w : World} {lo : List Str} {mean : ExcName → Option Value} {mg mb : Str → Option Value} {h h' : Heap} (G : Gd w lo mean mg mb h) (hk : ∀ b o, h.get? b = some o → h'.get? b = some o) : Gd w lo mean mg mb h' :=
  ⟨G.X.keeps hk, G.T.keeps hk⟩
theorem IsList.keepsAll {h h' : Heap} {a : Addr} {its : Array Value} (x : h.IsList a its) (hk : ∀ b o, h.get? b = some o → h'.get? b = some o) : h'.IsList a its :=
  let ⟨o, e, r⟩ := x; ⟨o, hk _ _ e, r⟩


theorem all_gt {c d : Nat} {l : List (Addr × Obj)} (h : ∀ p ∈ l, @LT.lt Nat _ c p.1) (hd : d ≤ c) : ∀ p ∈ l, p.1 ≠ d := fun p hp q => by
  have := h p hp
  rw [q] at this
  exact absurd this (Nat.not_lt.mpr hd)

/-- not a cell of the law, not a table -/
noncomputable def Off (L p : Nat) : Prop := p ≠ 71 ∧ p ≠ 78 ∧ (p ≤ L ∨ L + 10 < p)

theorem off_ne {L d : Nat} {l : List (Addr × Obj)} (h : ∀ p ∈ l, Off L p.1) (hd : d = 71 ∨ d = 78 ∨ (L < d ∧ d ≤ L + 10)) : ∀ p ∈ l, p.1 ≠ d := fun p hp q => by
  obtain ⟨h1, h2, h3⟩ := (q ▸ h p hp : Off L d)
  exact hd.elim h1 fun hd => hd.elim h2 fun hd => h3.elim (fun c => absurd hd.1 (Nat.not_lt.mpr c)) fun c => absurd hd.2 (Nat.not_le.mpr c)

end Mine
end

section
open PySem PySem.W PySem.Calls PyProof.Rows
open Mine
local macro_rules | `(tactic| walk_at "exec While Compare cons nil") => `(tactic| refine Stop.intro ?_)
local macro_rules | `(tactic| walk_at "eval Name") => `(tactic| (k_here; k_dflt (refine' nameX_L ?k1 ?k2 ?_; (case k1 => k_asm); (case k2 => assumption); k_whole)))

section
open PySem PySem.W PySem.Calls PyProof.Rows
set_option Elab.async false
namespace Mine
set_option maxRecDepth 100000
set_option maxHeartbeats 8000000

theorem fill0 (h : PySem.Challenge.rw_ta0035_01.about = [] → hd.heap_39 = hd.heap_39) : (PySem.Challenge.rw_ta0035_01.about = [] → hd.heap_39 = hd.heap_39) := by
  k_fill
  exact h

/-- bisect_right as a function -/
noncomputable def bis (ns : List Int) (x : Int) : Nat → Int → Int → Int
  | 0, lo, _ => lo
  | f + 1, lo, hi => if lo < hi then
      (if x < ns.getD ((lo + hi).fdiv 2).toNat 0 then bis ns x f lo ((lo + hi).fdiv 2) else bis ns x f ((lo + hi).fdiv 2 + 1) hi)
    else lo

theorem bis_up {ns : List Int} {x lo hi : Int} {f : Nat} (h : lo < hi) (hx : x < ns.getD ((lo + hi).fdiv 2).toNat 0) : bis ns x (f + 1) lo hi = bis ns x f lo ((lo + hi).fdiv 2) := by
  rw [bis, if_pos h, if_pos hx]
theorem bis_dn {ns : List Int} {x lo hi : Int} {f : Nat} (h : lo < hi) (hx : ¬ x < ns.getD ((lo + hi).fdiv 2).toNat 0) : bis ns x (f + 1) lo hi = bis ns x f ((lo + hi).fdiv 2 + 1) hi := by
  rw [bis, if_pos h, if_neg hx]
theorem mid_in {a b : Int} (h0 : 0 ≤ a) (h : a < b) : a ≤ (a + b).fdiv 2 ∧ (a + b).fdiv 2 < b := by
  rw [Int.fdiv_eq_ediv_of_nonneg _ (by decide)]
  omega
theorem bis_pos {a b : Int} {f : Nat} (h : a < b) (hf : (b - a).toNat ≤ f) : ∃ k, f = k + 1 := ⟨f - 1, by omega⟩
theorem bis_l {a b m : Int} (h1 : a ≤ m) (h2 : m < b) : (m - a).toNat < (b - a).toNat := by omega
theorem bis_r {a b m : Int} (h1 : a ≤ m) (h2 : m < b) : (b - (m + 1)).toNat < (b - a).toNat := by omega
theorem bis_done {ns : List Int} {x lo hi : Int} (h : ¬ lo < hi) : ∀ f, bis ns x f lo hi = lo
  | 0 => rfl
  | f + 1 => by rw [bis, if_neg h]

section
variable {w : World} {A : Around} {s : Shared} {lo : List Str} {mean : ExcName → Option Value} {mg mb : Str → Option Value}

theorem bisect_ok (G : Gd w lo mean mg mb s.heap) (hA : Amb A 5) {l : Addr} {vs : List Value} {ns : List Int} (hl : s.heap.IsList l vs.toArray) (hi : IntsAre vs ns) (hn : ns.length ≤ 64) {x lo' : Int} {tx tl : Tok} (h0 : 0 ≤ lo')
    {Q : Value → Shared → Prop} {E : Value → Shared → Prop} (hQ : ∀ t s', Keeps s s' → Q (.int (bis ns x 64 lo' ns.length) t) s') :
    wpAny (model prog0 w) A (call (.ref 106) [.ref l, .int x tx, .int lo' tl]) Q E s := by
  refine wpAny_call ?_
  have KX := G.X
  refine' enter (k := 4) (binds := [(Str.ofString "a", .ref l), (Str.ofString "x", .int x tx), (Str.ofString "lo", .int lo' tl), (Str.ofString "hi", .none), (Str.ofString "key", .none)]) G hA ?k6 ?k7 ?k9 ?kB ?c2 ?c3 ?c4 ?c5 ?_
  (case k6 => k_is); (case k7 => k_is);  (case k9 => (refine' kp_binds ?kx ?ke; (case kx => exact G.X); (case ke => exact fun _ => rfl))); (case c5 => decide); (case kB => exact locs rfl); (case c2 => exact rfl); (case c3 => exact rfl); (case c4 => exact rfl)
  have T := G.T
  obtain ⟨hp, gens, drawn, toks, os⟩ := s
  dsimp only at *
  intro L h₁ tk F N hA'
  w_top on
  k_steps
  refine Stop.out ?_
  refine while_rule (fun n s' => ∃ (h' : Heap) (tk' : Nat) (m' : Str → Option Value) (a b : Int) (t1 t2 : Tok), s' = ⟨h', gens, drawn, tk', os⟩ ∧
    Fr hp L h' m' ∧ m' (Str.ofString "lo") = some (.int a t1) ∧ m' (Str.ofString "hi") = some (.int b t2) ∧ m' (Str.ofString "a") = some (.ref l) ∧ m' (Str.ofString "x") = some (.int x tx) ∧
    0 ≤ a ∧ b ≤ ns.length ∧ n = (b - a).toNat ∧ ∃ f, (b - a).toNat ≤ f ∧ bis ns x 64 lo' ns.length = bis ns x f a b) ?_ _ ⟨_, _, _, _, _, _, _, rfl, by assumption, rfl, rfl, rfl, rfl, h0, Int.le_refl _, rfl, 64, by omega, rfl⟩
  rintro n s' hpk1
  refine gen_goal fun GX hGX => ?_
  obtain ⟨h', tk', m', a, b, t1, t2, rfl, F9, e1, e2, e3, e4, hb0, hb1, rfl, f, hf, hbis⟩ := hpk1
  refine hGX ?_
  clear hGX
  have N9 : News hp L h' [] := News.nil
  k_steps
  · obtain ⟨q1, q2⟩ := mid_in hb0 ‹a < b›
    obtain ⟨f, rfl⟩ := bis_pos ‹a < b› hf
    exact ⟨_, bis_l q1 q2, _, _, _, _, _, _, _, rfl, by assumption, by assumption, rfl, by assumption, by assumption, hb0, Int.le_trans (Int.le_of_lt q2) hb1, rfl, f, Nat.le_of_lt_succ (Nat.lt_of_lt_of_le (bis_l q1 q2) hf), hbis.trans (bis_up (by assumption) (by assumption))⟩
  · obtain ⟨q1, q2⟩ := mid_in hb0 ‹a < b›
    obtain ⟨f, rfl⟩ := bis_pos ‹a < b› hf
    exact ⟨_, bis_r q1 q2, _, _, _, _, _, _, _, rfl, by assumption, rfl, by assumption, by assumption, by assumption, Int.le_trans hb0 (Int.le_trans q1 (Int.le_add_of_nonneg_right (by decide))), hb1, rfl, f, Nat.le_of_lt_succ (Nat.lt_of_lt_of_le (bis_r q1 q2) hf), hbis.trans (bis_dn (by assumption) (by assumption))⟩
  · have e := hQ t1 ⟨h', gens, drawn, tk', os⟩ ⟨h', tk', rfl, F9.keep⟩
    rw [hbis, bis_done (by assumption)] at e
    exact e

theorem bisect_at {g : Heap} {L : Addr} {m : Str → Option Value} {news : List (Addr × Obj)} (G : Gd w lo mean mg mb g) (hA : Amb A 5) (F : Fr g L s.heap m) (N : News g L s.heap news)
    {l : Addr} {vs : List Value} {ns : List Int} (hl : g.IsList l vs.toArray) (hi : IntsAre vs ns) (hn : ns.length ≤ 64) {x lo' : Int} {tx tl : Tok} (h0 : 0 ≤ lo')
    {Q : Value → Shared → Prop} {E : Value → Shared → Prop} (hQ : ∀ t h' tk, Fr g L h' m → News g L h' news → Q (.int (bis ns x 64 lo' ns.length) t) { s with heap := h', toks := tk }) :
    wpAny (model prog0 w) A (call (.ref 106) [.ref l, .int x tx, .int lo' tl]) Q E s :=
  bisect_ok (G.keeps F.keep) hA (IsList.keepsAll hl F.keep) hi hn h0 fun t s' ⟨h', tk, e, hk⟩ => by subst e; exact hQ t h' tk (Fr.keepsAll F hk) (News.keepsAll N hk)
end
end Mine
end

section
open PySem PySem.W PySem.Calls PyProof.Rows
set_option Elab.async false
namespace Mine
set_option maxRecDepth 100000
set_option maxHeartbeats 8000000

theorem fill2 (h : PySem.Challenge.rw_ta0035_01.about = [] → hd.heap_39 = hd.heap_39) : (PySem.Challenge.rw_ta0035_01.about = [] → hd.heap_39 = hd.heap_39) := by
  k_fill
  exact h

/-- _law_places as a function -/
noncomputable def plc (ns : List Int) : Nat → Int → Option (List Int)
  | 0, _ => none
  | f + 1, n => if 0 < n then
      (if 0 ≤ bis ns n 64 2 ns.length - 1 ∧ bis ns n 64 2 ns.length - 1 < ns.length ∧ 0 < ns.getD (bis ns n 64 2 ns.length - 1).toNat 0 then
        (plc ns f (n - ns.getD (bis ns n 64 2 ns.length - 1).toNat 0)).map ((bis ns n 64 2 ns.length - 1) :: ·) else none)
    else some []

section
variable {w : World} {A : Around} {s : Shared} {lo : List Str} {mean : ExcName → Option Value} {mg mb : Str → Option Value}
local macro_rules | `(tactic| walk_at "call ref") => `(tactic| (k_here; (with_reducible show wpAny _ _ (call (Value.ref 106) _ _) _ _ _); k_dflt (refine' bisect_at ?g ?a ?f ?n ?l ?i ?hn ?h0 ?_; (case g => assumption); (case a => exact Amb.le (by assumption) (by decide)); (case f => k_asm); (case n => k_asm); (case l => assumption); (case i => assumption); (case hn => assumption); (case h0 => decide); k_whole); intro t' h' tk' F' N'; (try k_sweep)))

set_option pp.deepTerms false in
theorem places_ok (G : Gd w lo mean mg mb s.heap) (hA : Amb A 8) {l : Addr} {vs : List Value} {ns : List Int} (hl : s.heap.IsList l vs.toArray) (hi : IntsAre vs ns) (hn : ns.length ≤ 64) {x : Int} {tx : Tok} {f : Nat} {ps : List Int} (hf : f ≤ 1000) (hp : plc ns f x = some ps)
    {Q : Value → Shared → Prop} {E : Value → Shared → Prop} (hQ : ∀ a us n s', Keeps s s' → s.heap.get? a = none → s'.heap.get? a = some (listOf (List.toArray us) n) → IntsAre us ps → Q (.ref a) s') :
    wpAny (model prog0 w) A (call (.ref 120) [.int x tx, .ref l]) Q E s := by
  refine wpAny_call ?_
  have KX := G.X
  refine' enter (k := 7) (binds := [(Str.ofString "n", .int x tx), (Str.ofString "table", .ref l)]) G hA ?k6 ?k7 ?k9 ?kB ?c2 ?c3 ?c4 ?c5 ?_
  (case k6 => k_is); (case k7 => k_is);  (case k9 => exact BindsTo.of_eq rfl); (case c5 => decide); (case kB => exact locs rfl); (case c2 => exact rfl); (case c3 => exact rfl); (case c4 => exact rfl)
  have T := G.T
  obtain ⟨hp, gens, drawn, toks, os⟩ := s
  dsimp only at *
  intro L h₁ tk F N hA'
  w_top on
  k_steps
  refine Stop.out ?_
  refine while_rule (fun n s' => ∃ (h' : Heap) (tk' : Nat) (m' : Str → Option Value) (r : Int) (t1 : Tok) (p : Addr) (us : List Value) (ep : Nat) (q q2 : List Int), s' = ⟨h', gens, drawn, tk', os⟩ ∧
    Fr hp L h' m' ∧ News hp L h' [(p, listOf us.toArray ep)] ∧ m' (Str.ofString "left") = some (.int r t1) ∧ m' (Str.ofString "places") = some (.ref p) ∧ m' (Str.ofString "table") = some (.ref l) ∧
    IntsAre us q ∧ plc ns n r = some q2 ∧ q ++ q2 = ps ∧ q.length + n ≤ 1000) ?_ f ⟨_, _, _, _, _, _, [], _, [], _, rfl, by assumption, by assumption, rfl, rfl, rfl, .nil, ‹plc ns f x = some ps›, rfl, by simpa using hf⟩
  rintro n s' hpk1
  refine gen_goal fun GX hGX => ?_
  obtain ⟨h', tk', m', r, t1, p, us, ep, q, q2, rfl, F9, N9, e1, e2, e3, hus, hpl, hq, hlen⟩ := hpk1
  refine hGX ?_
  clear hGX
  obtain _ | n := n
  · cases hpl
  rw [plc] at hpl
  have hrange : 0 < r → (0 ≤ bis ns r 64 2 ns.length - 1 ∧ bis ns r 64 2 ns.length - 1 < ns.length) := fun h => by
    rw [if_pos h] at hpl
    split at hpl
    · rename_i h9; exact ⟨h9.1, h9.2.1⟩
    · cases hpl
  have husl : us.toArray.size ≤ sizeLine := by
    have := IntsAre.length hus
    rw [List.size_toArray, this]; show q.length ≤ 2 ^ 24; omega
  k_steps
  · have h0 : 0 < r := by assumption
    have hr := hrange h0
    rw [if_pos h0] at hpl
    split at hpl
    · rename_i h9
      obtain ⟨q3, e9, rfl⟩ := Option.map_eq_some_iff.mp hpl
      (with_reducible rename News _ _ _ _ => N7)
      rw [List.push_toArray] at N7
      refine ⟨n, Nat.lt_succ_self n, _, _, _, _, _, p, us ++ [_], _, q ++ [_], q3, rfl, by assumption, N7, rfl, by assumption, by assumption, IntsAre.append hus (.cons _ _ .nil), e9, by rw [List.append_assoc]; exact hq, ?_⟩
      rw [List.length_append, List.length_singleton]; omega
    · cases hpl
  · rw [if_neg (by assumption)] at hpl
    cases hpl
    rw [List.append_nil] at hq
    subst hq
    exact hQ p us ep ⟨h', gens, drawn, _, os⟩ ⟨h', _, rfl, F9.keep⟩ (N9 _ (.head _)).2.2 (N9 _ (.head _)).1 hus
end
end Mine
end
end

section
namespace Mine
open PySem PySem.Sre
set_option maxRecDepth 10000

noncomputable def code1 : Array Nat := #[14, 4, 0, 1, 1, 6, 1, 16, 46, 1]
noncomputable def code2 : Array Nat := #[14, 9, 4, 1, 2, 16, 10, 16, 13, 0, 7, 7, 16, 13, 16, 10, 15, 18, 5, 16, 10, 15, 13, 11, 16, 13, 5, 5, 0, 16, 10, 1, 15, 2, 0, 1]

theorem runFor_done {m : M} (h : m.outcome.isSome = true) : ∀ n, M.runFor n m = m
  | 0 => rfl
  | n + 1 => by rw [M.runFor, if_pos h]
theorem runFor_step {m : M} (h : m.outcome = none) (n : Nat) : M.runFor (n + 1) m = M.runFor n m.step := by
  rw [M.runFor, if_neg (by rw [h]; exact Bool.false_ne_true)]
theorem runFor_add : ∀ (a b : Nat) (m : M), M.runFor (a + b) m = M.runFor b (M.runFor a m)
  | 0, b, m => by rw [Nat.zero_add]; rfl
  | a + 1, b, m => by
    rw [show a + 1 + b = (a + b) + 1 by omega]
    cases h : m.outcome with
    | some o => rw [runFor_done (by rw [h]; rfl), runFor_done (m := M.runFor (a + 1) m) (by rw [runFor_done (by rw [h]; rfl), h]; rfl), runFor_done (by rw [h]; rfl)]
    | none => rw [runFor_step h, runFor_step h, runFor_add a b]

/-- it comes to an end, and to this one -/
noncomputable def Ends (m m' : M) : Prop := ∃ N, N ≤ 4000000000 ∧ M.runFor N m = m' ∧ m'.outcome.isSome = true
/-- within so many steps -/
noncomputable def EndsIn (N : Nat) (m m' : M) : Prop := M.runFor N m = m' ∧ m'.outcome.isSome = true

theorem EndsIn.more {N K : Nat} {m m' : M} (h : EndsIn N m m') (hk : N ≤ K) : EndsIn K m m' := by
  obtain ⟨k, rfl⟩ := Nat.exists_eq_add_of_le hk
  exact ⟨by rw [runFor_add, h.1, runFor_done h.2], h.2⟩
theorem EndsIn.step {N : Nat} {m m' : M} (ho : m.outcome = none) (h : EndsIn N m.step m') : EndsIn (N + 1) m m' := ⟨by rw [runFor_step ho]; exact h.1, h.2⟩


theorem EndsIn.after {a b : Nat} {m m₁ m' : M} (h : M.runFor a m = m₁) (h' : EndsIn b m₁ m') : EndsIn (a + b) m m' := ⟨by rw [runFor_add, h]; exact h'.1, h'.2⟩

theorem EndsIn.go {N : Nat} {m m₁ m' : M} (ho : m.outcome = none) (e : m.step = m₁) (h : EndsIn N m₁ m') : EndsIn (N + 1) m m' := .step ho (e ▸ h)
theorem EndsIn.now {m : M} (h : m.outcome.isSome = true) : EndsIn 0 m m := ⟨rfl, h⟩
theorem run1 {N : Nat} {m m₁ m' : M} (ho : m.outcome = none) (e : m.step = m₁) (h : M.runFor N m₁ = m') : M.runFor (N + 1) m = m' := by rw [runFor_step ho, e, h]

theorem step_exec {m : M} (ho : m.outcome = none) (ha : m.answer = none) (hp : m.pc < m.code.size) : m.step = m.exec := by
  unfold M.step
  rw [ho, ha]
  simp only [Option.isSome_none, Bool.false_eq_true, if_false, if_pos hp]
theorem step_ans {m : M} {yes : Bool} {f : PySem.Sre.Frame} {rest : List PySem.Sre.Frame} (ho : m.outcome = none) (ha : m.answer = some yes) (hf : m.frames = f :: rest) :
    m.step = M.resume { m with answer := none, frames := rest, weight := m.weight - (1 + f.kept.marks.size), pc := f.pc, pos := f.pos, outermost := f.outermost } f yes := by
  unfold M.step
  rw [ho, ha, hf]
  simp only [Option.isSome_none, Bool.false_eq_true, if_false]
theorem step_fin {m : M} {yes : Bool} (ho : m.outcome = none) (ha : m.answer = some yes) (hf : m.frames = []) :
    m.step = { m with outcome := some (if yes then .matched else .failed) } := by
  unfold M.step
  rw [ho, ha, hf]
  simp only [Option.isSome_none, Bool.false_eq_true, if_false]

theorem exec_at {m : M} {yes : Bool} (hop : ops[m.word 0]? = some .AT) (h : M.isAt { m with seen := m.seen.add (m.word 0) } (m.word 1) = .ok yes) :
    m.exec = (if yes then { m with seen := (m.seen.add (m.word 0)).add (43 + m.word 1), pc := m.pc + 2 } else M.say { m with seen := (m.seen.add (m.word 0)).add (43 + m.word 1) } false) := by
  unfold M.exec
  rw [hop]
  show (match M.isAt { m with seen := m.seen.add (m.word 0) } (m.word 1) with | .error why => _ | .ok yes => _) = _
  rw [h]
  rfl
theorem exec_lit_end {m : M} (hop : ops[m.word 0]? = some .LITERAL) (h : m.lim ≤ m.pos) : m.exec = M.say { m with seen := m.seen.add (m.word 0) } false := by
  unfold M.exec
  rw [hop]
  exact if_pos h
theorem accepts_lit {code : Array Nat} {i c : Nat} {seen : Seen} (hop : ops[code.getD i 0]? = some .LITERAL) : accepts code i c seen = .ok (c == code.getD (i + 1) 0, seen) := by
  unfold accepts
  rw [hop]
theorem width_lit {code : Array Nat} {i : Nat} (hop : ops[code.getD i 0]? = some .LITERAL) : itemWidth code i = 2 := by
  unfold itemWidth
  rw [hop]
theorem exec_lit_yes {m : M} (hop : ops[m.word 0]? = some .LITERAL) (h : m.pos < m.lim) (hc : m.text.getD m.pos 0 = m.word 1) :
    m.exec = { m with seen := m.seen.add (m.word 0), pc := m.pc + 2, pos := m.pos + 1 } := by
  have hop' : ops[m.code.getD m.pc 0]? = some .LITERAL := hop
  unfold M.exec
  rw [hop]
  show (if m.pos ≥ m.lim then _ else _) = _
  rw [if_neg (Nat.not_le.mpr h)]
  show (match accepts m.code m.pc (m.text.getD m.pos 0) (m.seen.add (m.word 0)) with | .error _ => _ | .ok (false, _) => _ | .ok (true, _) => _) = _
  rw [accepts_lit hop', hc, show (m.word 1 == m.code.getD (m.pc + 1) 0) = true from beq_self_eq_true _]
  show ({ m with seen := m.seen.add (m.word 0), pc := m.pc + itemWidth m.code m.pc, pos := m.pos + 1 } : M) = _
  rw [width_lit hop']
theorem exec_lit_no {m : M} (hop : ops[m.word 0]? = some .LITERAL) (h : m.pos < m.lim) (hc : ¬ m.text.getD m.pos 0 = m.word 1) :
    m.exec = M.say { m with seen := m.seen.add (m.word 0) } false := by
  have hop' : ops[m.code.getD m.pc 0]? = some .LITERAL := hop
  unfold M.exec
  rw [hop]
  show (if m.pos ≥ m.lim then _ else _) = _
  rw [if_neg (Nat.not_le.mpr h)]
  show (match accepts m.code m.pc (m.text.getD m.pos 0) (m.seen.add (m.word 0)) with | .error _ => _ | .ok (false, _) => _ | .ok (true, _) => _) = _
  rw [accepts_lit hop', show (m.text.getD m.pos 0 == m.code.getD (m.pc + 1) 0) = false from beq_eq_false_iff_ne.mpr hc]

/-- the first pattern's machine where it tries the place s -/
noncomputable def T1 (t : Array Nat) (n s : Nat) (first : Bool) (seen : Seen) : M :=
  { code := code1, text := t, lim := n, start := s, lastStart := n, pc := 5, pos := s, handed := s, outermost := first, marks := #[], seen := seen,
    frames := [{ wait := .nextStart, pc := 5, pos := s, outermost := first }], weight := 1 }

theorem T1_start {t : Array Nat} {pos : Nat} (h : pos < t.size) : ∃ seen, forSearch code1 t 0 pos t.size false = T1 t t.size pos true seen := by
  refine ⟨({} : Seen).add 14, ?_⟩
  unfold forSearch
  show (if pos > t.size || decide (t.size - pos < 1) then _ else _) = _
  rw [if_neg (by simp; omega)]
  rfl

theorem T1_out {t : Array Nat} {pos : Nat} (h : ¬ pos < t.size) : ∃ m', EndsIn 1 (forSearch code1 t 0 pos t.size false) m' ∧ m'.outcome = some .failed := by
  unfold forSearch
  show ∃ m', EndsIn 1 (if pos > t.size || decide (t.size - pos < 1) then _ else _) m' ∧ _
  rw [if_pos (by simp; omega)]
  exact ⟨_, ⟨rfl, rfl⟩, rfl⟩

section
variable {t : Array Nat} {n s : Nat} {first : Bool} {seen : Seen}

theorem T1_at (h : s = 0 ∨ t.getD (s - 1) 0 = 10) : (T1 t n s first seen).step = { T1 t n s first ((seen.add 6).add 44) with pc := 7 } := by
  have e : M.isAt { T1 t n s first seen with seen := seen.add 6 } 1 = .ok true := by
    show Except.ok (s == 0 || t.getD (s - 1) 0 == 10) = _
    rw [show (s == 0 || t.getD (s - 1) 0 == 10) = true by simpa using h]
  exact (step_exec rfl rfl (by show (5 : Nat) < 10; decide)).trans (exec_at (m := T1 t n s first seen) rfl e)
theorem T1_not (h : ¬ (s = 0 ∨ t.getD (s - 1) 0 = 10)) : (T1 t n s first seen).step = { T1 t n s first ((seen.add 6).add 44) with answer := some false } := by
  have e : M.isAt { T1 t n s first seen with seen := seen.add 6 } 1 = .ok false := by
    show Except.ok (s == 0 || t.getD (s - 1) 0 == 10) = _
    rw [show (s == 0 || t.getD (s - 1) 0 == 10) = false by simpa using h]
  exact (step_exec rfl rfl (by show (5 : Nat) < 10; decide)).trans (exec_at (m := T1 t n s first seen) rfl e)
theorem T1_back {pc : Nat} (h : s < n) : M.step { T1 t n s first seen with pc := pc, answer := some false } = T1 t n (s + 1) false seen := by
  refine (step_ans (yes := false) (f := { wait := .nextStart, pc := 5, pos := s, outermost := first }) (rest := []) rfl rfl rfl).trans ?_
  show (if s < n then _ else _) = _
  rw [if_pos h]
  rfl
theorem T1_last {pc : Nat} (h : ¬ s < n) : ∃ m, M.step { T1 t n s first seen with pc := pc, answer := some false } = m ∧ m.answer = some false ∧ m.frames = [] ∧ m.outcome = none := by
  refine ⟨_, step_ans (yes := false) (f := { wait := .nextStart, pc := 5, pos := s, outermost := first }) (rest := []) rfl rfl rfl, ?_⟩
  show M.answer (if s < n then _ else _) = _ ∧ M.frames (if s < n then _ else _) = _ ∧ M.outcome (if s < n then _ else _) = _
  rw [if_neg h]
  exact ⟨rfl, rfl, rfl⟩

theorem exec_ok {m : M} (hop : ops[m.word 0]? = some .SUCCESS) (h1 : m.wholeText = false) (h2 : m.mustAdvance = false) : m.exec = M.say { m with seen := m.seen.add (m.word 0), handed := m.pos } true := by
  unfold M.exec
  rw [hop]
  show (if (m.outermost && ((m.wholeText && m.pos != m.lim) || (m.mustAdvance && m.pos == m.start))) = true then _ else _) = _
  rw [h1, h2, Bool.false_and, Bool.false_and, Bool.or_false, Bool.and_false, if_neg Bool.false_ne_true]

theorem T1_hit (h : s = 0 ∨ t.getD (s - 1) 0 = 10) (hs : s < n) (hd : t.getD s 0 = 46) :
    ∃ m', EndsIn 5 (T1 t n s first seen) m' ∧ m'.outcome = some .matched ∧ m'.start = s ∧ m'.handed = s + 1 := by
  have s1 := T1_at (n := n) (first := first) (seen := seen) h
  have s2 : M.step { T1 t n s first ((seen.add 6).add 44) with pc := 7 } = { T1 t n s first (((seen.add 6).add 44).add 16) with pc := 9, pos := s + 1 } :=
    (step_exec rfl rfl (by show (7 : Nat) < 10; decide)).trans (exec_lit_yes (m := { T1 t n s first ((seen.add 6).add 44) with pc := 7 }) rfl hs hd)
  have s3 : M.step { T1 t n s first (((seen.add 6).add 44).add 16) with pc := 9, pos := s + 1 } = { T1 t n s first ((((seen.add 6).add 44).add 16).add 1) with pc := 9, pos := s + 1, handed := s + 1, answer := some true } :=
    (step_exec rfl rfl (by show (9 : Nat) < 10; decide)).trans (exec_ok (m := { T1 t n s first (((seen.add 6).add 44).add 16) with pc := 9, pos := s + 1 }) rfl rfl rfl)
  have s4 := step_ans (m := { T1 t n s first ((((seen.add 6).add 44).add 16).add 1) with pc := 9, pos := s + 1, handed := s + 1, answer := some true }) (yes := true) (f := { wait := .nextStart, pc := 5, pos := s, outermost := first }) (rest := []) rfl rfl rfl
  exact ⟨_, EndsIn.go rfl s1 (EndsIn.go rfl s2 (EndsIn.go rfl s3 (EndsIn.go rfl s4 (EndsIn.go rfl (step_fin rfl rfl rfl) (EndsIn.now rfl))))), rfl, rfl, rfl⟩

/-- the first place from s on where the first pattern holds -/
noncomputable def find1 (t : Array Nat) : Nat → Nat → Option Nat
  | 0, _ => none
  | k + 1, s => if (s = 0 ∨ t.getD (s - 1) 0 = 10) ∧ t.getD s 0 = 46 then some s else find1 t k (s + 1)

theorem EndsIn.of_eq {a : Nat} {m m₁ m' : M} (h : m = m₁) (h' : EndsIn a m₁ m') : EndsIn a m m' := h ▸ h'

theorem T1_next (hs : s < n) (h : ¬ ((s = 0 ∨ t.getD (s - 1) 0 = 10) ∧ t.getD s 0 = 46)) :
    ∃ seen' k, k ≤ 3 ∧ M.runFor k (T1 t n s first seen) = T1 t n (s + 1) false seen' := by
  by_cases h1 : s = 0 ∨ t.getD (s - 1) 0 = 10
  · have h2 : ¬ t.getD s 0 = 46 := fun q => h ⟨h1, q⟩
    have s1 := T1_at (n := n) (first := first) (seen := seen) h1
    have s2 : M.step { T1 t n s first ((seen.add 6).add 44) with pc := 7 } = { T1 t n s first (((seen.add 6).add 44).add 16) with pc := 7, answer := some false } :=
      (step_exec rfl rfl (by show (7 : Nat) < 10; decide)).trans (exec_lit_no (m := { T1 t n s first ((seen.add 6).add 44) with pc := 7 }) rfl hs h2)
    exact ⟨((seen.add 6).add 44).add 16, 3, Nat.le_refl _, run1 rfl s1 (run1 rfl s2 (run1 rfl (T1_back (pc := 7) hs) rfl))⟩
  · have s1 := T1_not (n := n) (first := first) (seen := seen) h1
    exact ⟨(seen.add 6).add 44, 2, by omega, run1 rfl s1 (run1 rfl (T1_back (pc := 5) hs) rfl)⟩

theorem T1_end : ∃ m', EndsIn 5 (T1 t n n first seen) m' ∧ m'.outcome = some .failed := by
  by_cases h1 : n = 0 ∨ t.getD (n - 1) 0 = 10
  · have s1 := T1_at (n := n) (first := first) (seen := seen) h1
    have s2 : M.step { T1 t n n first ((seen.add 6).add 44) with pc := 7 } = { T1 t n n first (((seen.add 6).add 44).add 16) with pc := 7, answer := some false } :=
      (step_exec rfl rfl (by show (7 : Nat) < 10; decide)).trans (exec_lit_end (m := { T1 t n n first ((seen.add 6).add 44) with pc := 7 }) rfl (Nat.le_refl _))
    obtain ⟨m3, e3, a3, f3, o3⟩ := T1_last (t := t) (n := n) (s := n) (first := first) (seen := ((seen.add 6).add 44).add 16) (pc := 7) (Nat.lt_irrefl _)
    exact ⟨_, EndsIn.more (N := 4) (EndsIn.go rfl s1 (EndsIn.go rfl s2 (EndsIn.go rfl e3 (EndsIn.go o3 (step_fin o3 a3 f3) (EndsIn.now rfl))))) (by decide), rfl⟩
  · have s1 := T1_not (n := n) (first := first) (seen := seen) h1
    obtain ⟨m3, e3, a3, f3, o3⟩ := T1_last (t := t) (n := n) (s := n) (first := first) (seen := (seen.add 6).add 44) (pc := 5) (Nat.lt_irrefl _)
    exact ⟨_, EndsIn.more (N := 3) (EndsIn.go rfl s1 (EndsIn.go rfl e3 (EndsIn.go o3 (step_fin o3 a3 f3) (EndsIn.now rfl)))) (by decide), rfl⟩
end

/-- what the search tells -/
noncomputable def Says (m : M) (r : Option (Nat × Nat)) : Prop := match r with
  | some (a, b) => m.outcome = some .matched ∧ m.start = a ∧ m.handed = b
  | none => m.outcome = some .failed

theorem search1 {t : Array Nat} {n : Nat} : ∀ (k s : Nat) (first : Bool) (seen : Seen), s + k = n → ∃ m', EndsIn (3 * k + 5) (T1 t n s first seen) m' ∧ Says m' ((find1 t k s).map fun p => (p, p + 1))
  | 0, s, first, seen, h => by
    obtain rfl : s = n := by omega
    obtain ⟨m', h1, h2⟩ := T1_end (t := t) (n := s) (first := first) (seen := seen)
    exact ⟨m', h1, h2⟩
  | k + 1, s, first, seen, h => by
    by_cases q : (s = 0 ∨ t.getD (s - 1) 0 = 10) ∧ t.getD s 0 = 46
    · obtain ⟨m', h1, h2, h3, h4⟩ := T1_hit (first := first) (seen := seen) q.1 (show s < n by omega) q.2
      refine ⟨m', h1.more (by omega), ?_⟩
      rw [find1, if_pos q]
      exact ⟨h2, h3, h4⟩
    · obtain ⟨seen', j, hj, e⟩ := T1_next (t := t) (n := n) (s := s) (first := first) (seen := seen) (by omega) q
      obtain ⟨m', h1, h2⟩ := search1 (t := t) (n := n) k (s + 1) false seen' (by omega)
      refine ⟨m', EndsIn.more (EndsIn.after e h1) (by omega), ?_⟩
      rw [find1, if_neg q]
      exact h2

theorem found1 (t : Array Nat) (pos : Nat) : ∃ m', EndsIn (3 * t.size + 5) (forSearch code1 t 0 pos t.size false) m' ∧ Says m' ((find1 t (t.size - pos) pos).map fun p => (p, p + 1)) := by
  by_cases h : pos < t.size
  · obtain ⟨seen, e⟩ := T1_start h
    obtain ⟨m', h1, h2⟩ := search1 (t := t) (n := t.size) (t.size - pos) pos true seen (by omega)
    exact ⟨m', EndsIn.of_eq e (h1.more (by omega)), h2⟩
  · obtain ⟨m', h1, h2⟩ := T1_out h
    refine ⟨m', h1.more (by omega), ?_⟩
    rw [show t.size - pos = 0 by omega]
    exact h2

theorem exec_jump {m : M} (hop : ops[m.word 0]? = some .JUMP) : m.exec = { m with seen := m.seen.add (m.word 0), pc := m.pc + 1 + m.word 1 } := by
  unfold M.exec
  rw [hop]
  rfl
theorem exec_branch {m : M} (hop : ops[m.word 0]? = some .BRANCH) (hi : m.inner = none) :
    m.exec = M.alternative { m with seen := m.seen.add (m.word 0) } (m.pc + 1) (M.keep { m with seen := m.seen.add (m.word 0) } false) := by
  unfold M.exec
  rw [hop]
  show M.alternative { m with seen := m.seen.add (m.word 0) } (m.pc + 1) (M.keep { m with seen := m.seen.add (m.word 0) } m.inner.isSome) = _
  rw [hi]
  rfl

/-- the second pattern's machine at the place p of a try from s -/
noncomputable def T2 (t : Array Nat) (n s : Nat) (first : Bool) (seen : Seen) : M :=
  { code := code2, text := t, lim := n, start := s, lastStart := n, pc := 10, pos := s, handed := s, outermost := first, marks := #[], seen := seen,
    frames := [{ wait := .nextStart, pc := 10, pos := s, outermost := first }], weight := 1 }
/-- .. in an alternative -/
noncomputable def A2 (t : Array Nat) (n s : Nat) (first : Bool) (seen : Seen) (alt : Nat) : M :=
  { code := code2, text := t, lim := n, start := s, lastStart := n, pc := alt + 1, pos := s, handed := s, outermost := first, marks := #[], seen := seen,
    frames := [{ wait := .nextBranch, pc := alt, pos := s, outermost := first }, { wait := .nextStart, pc := 10, pos := s, outermost := first }], weight := 2 }

section
variable {t : Array Nat} {n s : Nat} {first : Bool} {seen : Seen}

theorem T2_in : (T2 t n s first seen).step = A2 t n s first (seen.add 7) 11 :=
  (step_exec rfl rfl (by show (10 : Nat) < 36; decide)).trans (exec_branch (m := T2 t n s first seen) rfl rfl)

theorem A2_next {alt pc p : Nat} (h : code2.getD (alt + code2.getD alt 0) 0 ≠ 0) :
    M.step { A2 t n s first seen alt with pc := pc, pos := p, answer := some false } = A2 t n s first seen (alt + code2.getD alt 0) := by
  refine (step_ans (yes := false) (f := { wait := .nextBranch, pc := alt, pos := s, outermost := first }) (rest := [{ wait := .nextStart, pc := 10, pos := s, outermost := first }]) rfl rfl rfl).trans ?_
  show (if (code2.getD (alt + code2.getD alt 0) 0 == 0) = true then _ else _) = _
  rw [if_neg (by simpa using h)]
  rfl

/-- from the end of an alternative on -/
theorem A2_yes {alt p : Nat} : ∃ m', EndsIn 4 { A2 t n s first seen alt with pc := 35, pos := p } m' ∧ m'.outcome = some .matched ∧ m'.start = s ∧ m'.handed = p := by
  have s1 : M.step { A2 t n s first seen alt with pc := 35, pos := p } = { A2 t n s first (seen.add 1) alt with pc := 35, pos := p, handed := p, answer := some true } :=
    (step_exec rfl rfl (by show (35 : Nat) < 36; decide)).trans (exec_ok (m := { A2 t n s first seen alt with pc := 35, pos := p }) rfl rfl rfl)
  have s2 := step_ans (m := { A2 t n s first (seen.add 1) alt with pc := 35, pos := p, handed := p, answer := some true }) (yes := true) (f := { wait := .nextBranch, pc := alt, pos := s, outermost := first })
    (rest := [{ wait := .nextStart, pc := 10, pos := s, outermost := first }]) rfl rfl rfl
  exact ⟨_, EndsIn.go rfl s1 (EndsIn.go rfl s2 (EndsIn.go rfl (step_ans (yes := true) rfl rfl rfl) (EndsIn.go rfl (step_fin rfl rfl rfl) (EndsIn.now rfl)))), rfl, rfl, rfl⟩

/-- a feed -/
theorem T2_lf (hs : s < n) (hc : t.getD s 0 = 10) : ∃ m', EndsIn 10 (T2 t n s first seen) m' ∧ m'.outcome = some .matched ∧ m'.start = s ∧ m'.handed = s + 1 := by
  have s1 := T2_in (t := t) (n := n) (s := s) (first := first) (seen := seen)
  have s2 : M.step (A2 t n s first (seen.add 7) 11) = { A2 t n s first ((seen.add 7).add 16) 11 with answer := some false } :=
    (step_exec rfl rfl (by show (12 : Nat) < 36; decide)).trans (exec_lit_no (m := A2 t n s first (seen.add 7) 11) rfl hs (by show ¬ t.getD s 0 = 13; rw [hc]; decide))
  have s3 := A2_next (t := t) (n := n) (s := s) (first := first) (seen := (seen.add 7).add 16) (alt := 11) (pc := 12) (p := s) (by decide)
  have s4 : M.step (A2 t n s first ((seen.add 7).add 16) 18) = { A2 t n s first (((seen.add 7).add 16).add 16) 18 with pc := 21, pos := s + 1 } :=
    (step_exec rfl rfl (by show (19 : Nat) < 36; decide)).trans (exec_lit_yes (m := A2 t n s first ((seen.add 7).add 16) 18) rfl hs hc)
  have s5 : M.step { A2 t n s first (((seen.add 7).add 16).add 16) 18 with pc := 21, pos := s + 1 } = { A2 t n s first ((((seen.add 7).add 16).add 16).add 15) 18 with pc := 35, pos := s + 1 } :=
    (step_exec rfl rfl (by show (21 : Nat) < 36; decide)).trans (exec_jump (m := { A2 t n s first (((seen.add 7).add 16).add 16) 18 with pc := 21, pos := s + 1 }) rfl)
  obtain ⟨m', h1, h2⟩ := A2_yes (t := t) (n := n) (s := s) (first := first) (seen := (((seen.add 7).add 16).add 16).add 15) (alt := 18) (p := s + 1)
  exact ⟨m', EndsIn.more (EndsIn.go rfl s1 (EndsIn.go rfl s2 (EndsIn.go rfl s3 (EndsIn.go rfl s4 (EndsIn.go rfl s5 h1))))) (by decide), h2⟩

/-- a return and a feed -/
theorem T2_crlf (hs : s < n) (hc : t.getD s 0 = 13) (hs' : s + 1 < n) (hc' : t.getD (s + 1) 0 = 10) : ∃ m', EndsIn 10 (T2 t n s first seen) m' ∧ m'.outcome = some .matched ∧ m'.start = s ∧ m'.handed = s + 2 := by
  have s1 := T2_in (t := t) (n := n) (s := s) (first := first) (seen := seen)
  have s2 : M.step (A2 t n s first (seen.add 7) 11) = { A2 t n s first ((seen.add 7).add 16) 11 with pc := 14, pos := s + 1 } :=
    (step_exec rfl rfl (by show (12 : Nat) < 36; decide)).trans (exec_lit_yes (m := A2 t n s first (seen.add 7) 11) rfl hs hc)
  have s3 : M.step { A2 t n s first ((seen.add 7).add 16) 11 with pc := 14, pos := s + 1 } = { A2 t n s first (((seen.add 7).add 16).add 16) 11 with pc := 16, pos := s + 2 } :=
    (step_exec rfl rfl (by show (14 : Nat) < 36; decide)).trans (exec_lit_yes (m := { A2 t n s first ((seen.add 7).add 16) 11 with pc := 14, pos := s + 1 }) rfl hs' hc')
  have s5 : M.step { A2 t n s first (((seen.add 7).add 16).add 16) 11 with pc := 16, pos := s + 2 } = { A2 t n s first ((((seen.add 7).add 16).add 16).add 15) 11 with pc := 35, pos := s + 2 } :=
    (step_exec rfl rfl (by show (16 : Nat) < 36; decide)).trans (exec_jump (m := { A2 t n s first (((seen.add 7).add 16).add 16) 11 with pc := 16, pos := s + 2 }) rfl)
  obtain ⟨m', h1, h2⟩ := A2_yes (t := t) (n := n) (s := s) (first := first) (seen := (((seen.add 7).add 16).add 16).add 15) (alt := 11) (p := s + 2)
  exact ⟨m', EndsIn.more (EndsIn.go rfl s1 (EndsIn.go rfl s2 (EndsIn.go rfl s3 (EndsIn.go rfl s5 h1)))) (by decide), h2⟩

theorem exec_assert_not {m : M} (hop : ops[m.word 0]? = some .ASSERT_NOT) (hi : m.inner = none) (h0 : m.word 2 = 0) (hw : m.weight = 2) :
    m.exec = { m with seen := m.seen.add (m.word 0), frames := { wait := .lookNot, pc := m.pc, pos := m.pos, outermost := m.outermost, kept := { lastmark := m.lastmark, lastindex := m.lastindex, whole := false, marks := #[] } } :: m.frames, weight := 3, pc := m.pc + 3, pos := m.pos, handed := m.pos, outermost := false } := by
  obtain ⟨code, text, lim, start, lastStart, wholeText, mustAdvance, pc, pos, handed, outermost, marks, lastmark, lastindex, loops, inner, frames, weight, answer, seen, outcome⟩ := m
  dsimp only at hi hw
  subst hi hw
  unfold M.exec
  rw [hop]
  unfold M.word at h0 ⊢
  dsimp only at h0 ⊢
  rw [h0, if_neg (Nat.not_lt_zero _)]
  rfl

/-- in the look ahead, within the third alternative -/
noncomputable def L2 (t : Array Nat) (n s : Nat) (first : Bool) (seen : Seen) : M :=
  { A2 t n s first seen 23 with pc := 29, pos := s + 1, handed := s + 1, outermost := false, weight := 3, frames := { wait := .lookNot, pc := 26, pos := s + 1, outermost := first, kept := {} } :: (A2 t n s first seen 23).frames }
theorem L2_no {pc p : Nat} : M.step { L2 t n s first seen with pc := pc, pos := p, answer := some false } = { A2 t n s first seen 23 with pc := 32, pos := s + 1, handed := s + 1 } :=
  step_ans (m := { L2 t n s first seen with pc := pc, pos := p, answer := some false }) (yes := false) (f := { wait := .lookNot, pc := 26, pos := s + 1, outermost := first, kept := {} }) (rest := (A2 t n s first seen 23).frames) rfl rfl rfl

/-- a return alone -/
theorem T2_cr (hs : s < n) (hc : t.getD s 0 = 13) (hn : ¬ (s + 1 < n ∧ t.getD (s + 1) 0 = 10)) : ∃ m', EndsIn 15 (T2 t n s first seen) m' ∧ m'.outcome = some .matched ∧ m'.start = s ∧ m'.handed = s + 1 := by
  have s1 := T2_in (t := t) (n := n) (s := s) (first := first) (seen := seen)
  have s2 : M.step (A2 t n s first (seen.add 7) 11) = { A2 t n s first ((seen.add 7).add 16) 11 with pc := 14, pos := s + 1 } :=
    (step_exec rfl rfl (by show (12 : Nat) < 36; decide)).trans (exec_lit_yes (m := A2 t n s first (seen.add 7) 11) rfl hs hc)
  have s3 : M.step { A2 t n s first ((seen.add 7).add 16) 11 with pc := 14, pos := s + 1 } = { A2 t n s first (((seen.add 7).add 16).add 16) 11 with pc := 14, pos := s + 1, answer := some false } := by
    refine (step_exec rfl rfl (by show (14 : Nat) < 36; decide)).trans ?_
    by_cases hs' : s + 1 < n
    · exact exec_lit_no (m := { A2 t n s first ((seen.add 7).add 16) 11 with pc := 14, pos := s + 1 }) rfl hs' fun q => hn ⟨hs', q⟩
    · exact exec_lit_end (m := { A2 t n s first ((seen.add 7).add 16) 11 with pc := 14, pos := s + 1 }) rfl (Nat.not_lt.mp hs')
  generalize ((seen.add 7).add 16).add 16 = seen3 at s3
  have s4 := A2_next (t := t) (n := n) (s := s) (first := first) (seen := seen3) (alt := 11) (pc := 14) (p := s + 1) (by decide)
  have s5 : M.step (A2 t n s first seen3 18) = { A2 t n s first (seen3.add 16) 18 with answer := some false } :=
    (step_exec rfl rfl (by show (19 : Nat) < 36; decide)).trans (exec_lit_no (m := A2 t n s first seen3 18) rfl hs (by show ¬ t.getD s 0 = 10; rw [hc]; decide))
  have s6 := A2_next (t := t) (n := n) (s := s) (first := first) (seen := seen3.add 16) (alt := 18) (pc := 19) (p := s) (by decide)
  have s7 : M.step (A2 t n s first (seen3.add 16) 23) = { A2 t n s first ((seen3.add 16).add 16) 23 with pc := 26, pos := s + 1 } :=
    (step_exec rfl rfl (by show (24 : Nat) < 36; decide)).trans (exec_lit_yes (m := A2 t n s first (seen3.add 16) 23) rfl hs hc)
  have s8 : M.step { A2 t n s first ((seen3.add 16).add 16) 23 with pc := 26, pos := s + 1 } = L2 t n s first (((seen3.add 16).add 16).add 5) :=
    (step_exec rfl rfl (by show (26 : Nat) < 36; decide)).trans (exec_assert_not (m := { A2 t n s first ((seen3.add 16).add 16) 23 with pc := 26, pos := s + 1 }) rfl rfl rfl rfl)
  generalize ((seen3.add 16).add 16).add 5 = seen4 at s8
  have s9 : M.step (L2 t n s first seen4) = { L2 t n s first (seen4.add 16) with answer := some false } := by
    refine (step_exec rfl rfl (by show (29 : Nat) < 36; decide)).trans ?_
    by_cases hs' : s + 1 < n
    · exact exec_lit_no (m := L2 t n s first seen4) rfl hs' fun q => hn ⟨hs', q⟩
    · exact exec_lit_end (m := L2 t n s first seen4) rfl (Nat.not_lt.mp hs')
  have s10 := L2_no (t := t) (n := n) (s := s) (first := first) (seen := seen4.add 16) (pc := 29) (p := s + 1)
  have s11 : M.step { A2 t n s first (seen4.add 16) 23 with pc := 32, pos := s + 1, handed := s + 1 } = { A2 t n s first ((seen4.add 16).add 15) 23 with pc := 35, pos := s + 1, handed := s + 1 } :=
    (step_exec rfl rfl (by show (32 : Nat) < 36; decide)).trans (exec_jump (m := { A2 t n s first (seen4.add 16) 23 with pc := 32, pos := s + 1, handed := s + 1 }) rfl)
  have t1 : M.step { A2 t n s first ((seen4.add 16).add 15) 23 with pc := 35, pos := s + 1, handed := s + 1 } = { A2 t n s first (((seen4.add 16).add 15).add 1) 23 with pc := 35, pos := s + 1, handed := s + 1, answer := some true } :=
    (step_exec rfl rfl (by show (35 : Nat) < 36; decide)).trans (exec_ok (m := { A2 t n s first ((seen4.add 16).add 15) 23 with pc := 35, pos := s + 1, handed := s + 1 }) rfl rfl rfl)
  have t2 := step_ans (m := { A2 t n s first (((seen4.add 16).add 15).add 1) 23 with pc := 35, pos := s + 1, handed := s + 1, answer := some true }) (yes := true) (f := { wait := .nextBranch, pc := 23, pos := s, outermost := first })
    (rest := [{ wait := .nextStart, pc := 10, pos := s, outermost := first }]) rfl rfl rfl
  exact ⟨_, EndsIn.go rfl s1 (EndsIn.go rfl s2 (EndsIn.go rfl s3 (EndsIn.go rfl s4 (EndsIn.go rfl s5 (EndsIn.go rfl s6 (EndsIn.go rfl s7 (EndsIn.go rfl s8 (EndsIn.go rfl s9 (EndsIn.go rfl s10 (EndsIn.go rfl s11
    (EndsIn.go rfl t1 (EndsIn.go rfl t2 (EndsIn.go rfl (step_ans (yes := true) rfl rfl rfl) (EndsIn.go rfl (step_fin rfl rfl rfl) (EndsIn.now rfl))))))))))))))), rfl, rfl, rfl⟩
end

theorem inSet2 {c : Nat} {seen : Seen} : ∃ seen', inSet code2 c code2.size 5 true seen = .ok ((c == 10 || c == 13), seen') := by
  by_cases h1 : c = 10
  · subst h1; exact ⟨_, rfl⟩
  · by_cases h2 : c = 13
    · subst h2; exact ⟨_, rfl⟩
    · have e1 : (c == 10) = false := beq_eq_false_iff_ne.mpr h1
      have e2 : (c == 13) = false := beq_eq_false_iff_ne.mpr h2
      refine ⟨((seen.add 16).add 16).add 0, ?_⟩
      rw [e1, e2]
      show (if (c == 10) = true then _ else (if (c == 13) = true then _ else _)) = _
      rw [e1, e2, if_neg Bool.false_ne_true, if_neg Bool.false_ne_true]
      rfl

/-- the first place from s on where a feed or a return stands -/
noncomputable def find2 (t : Array Nat) : Nat → Nat → Option Nat
  | 0, _ => none
  | k + 1, s => if t.getD s 0 = 10 ∨ t.getD s 0 = 13 then some s else find2 t k (s + 1)

theorem admitted2 {m : M} (hc : m.code = code2) : ∀ (k s : Nat) (seen : Seen), s + k = m.lim → ∃ seen', M.admitted m (k + 1) s seen = .ok (find2 m.text k s, seen')
  | 0, s, seen, h => by
    refine ⟨seen, ?_⟩
    rw [M.admitted, if_pos (by omega)]
    rfl
  | k + 1, s, seen, h => by
    obtain ⟨seen1, e1⟩ := inSet2 (c := m.text.getD s 0) (seen := seen)
    rw [M.admitted, if_neg (by omega), hc, e1]
    cases q : (m.text.getD s 0 == 10 || m.text.getD s 0 == 13)
    · have q' : ¬ (m.text.getD s 0 = 10 ∨ m.text.getD s 0 = 13) := by simpa using q
      obtain ⟨seen2, e2⟩ := admitted2 hc k (s + 1) seen1 (by omega)
      refine ⟨seen2, ?_⟩
      rw [find2, if_neg q']
      exact e2
    · have q' : m.text.getD s 0 = 10 ∨ m.text.getD s 0 = 13 := by simpa using q
      refine ⟨seen1, ?_⟩
      rw [find2, if_pos q']

theorem find2_spec {t : Array Nat} : ∀ {k s p : Nat}, find2 t k s = some p → p < s + k ∧ s ≤ p ∧ (t.getD p 0 = 10 ∨ t.getD p 0 = 13)
  | 0, _, _, h => by cases h
  | k + 1, s, p, h => by
    rw [find2] at h
    split at h
    · cases h; exact ⟨by omega, Nat.le_refl _, by assumption⟩
    · have := find2_spec h; exact ⟨by omega, by omega, this.2.2⟩

/-- where the second pattern's match at p ends -/
noncomputable def end2 (t : Array Nat) (p : Nat) : Nat := if t.getD p 0 = 13 ∧ p + 1 < t.size ∧ t.getD (p + 1) 0 = 10 then p + 2 else p + 1

theorem found2 (t : Array Nat) (pos : Nat) : ∃ m', EndsIn 20 (forSearch code2 t 0 pos t.size false) m' ∧ Says m' ((find2 t (t.size - pos) pos).map fun p => (p, end2 t p)) := by
  by_cases h : pos < t.size
  · have e0 : ∃ m : M, m.code = code2 ∧ m.text = t ∧ m.lim = t.size ∧ m.frames = [] ∧ m.outcome = none ∧ forSearch code2 t 0 pos t.size false = m.attemptFrom pos true ∧
        (∀ s seen, M.attemptAt { m with mustAdvance := false, seen := seen } s true = T2 t t.size s true seen) := by
      refine ⟨({ code := code2, text := t, lim := t.size, start := pos, pc := 10, pos := pos, handed := pos, marks := #[], seen := ({} : Seen).add 14, lastStart := t.size } : M), rfl, rfl, rfl, rfl, rfl, ?_, fun s seen => rfl⟩
      unfold forSearch
      show (if pos > t.size || decide (t.size - pos < 1) then _ else _) = _
      rw [if_neg (by simp; omega)]
      rfl
    obtain ⟨m, c1, c2, c3, c4, c5, e, ea⟩ := e0
    subst c2
    obtain ⟨seen', ead⟩ := admitted2 c1 (m.text.size - pos) pos m.seen (by omega)
    have hf : m.hasFirstSet = true := by unfold M.hasFirstSet; rw [c1]; rfl
    have e2 : m.attemptFrom pos true = (match find2 m.text (m.text.size - pos) pos with
        | some s => T2 m.text m.text.size s true seen'
        | none => M.say { m with seen := seen' } false) := by
      unfold M.attemptFrom
      rw [hf, if_neg (by decide), show m.lim + 1 - pos = m.text.size - pos + 1 by omega, ead]
      cases find2 m.text (m.text.size - pos) pos with
      | none => rfl
      | some s => exact ea s seen'
    rw [e, e2]
    cases q : find2 m.text (m.text.size - pos) pos with
    | none => exact ⟨_, EndsIn.more (EndsIn.go c5 (step_fin c5 rfl c4) (EndsIn.now rfl)) (by decide), rfl⟩
    | some s =>
      obtain ⟨h1, h2, h3⟩ := find2_spec q
      show ∃ m', EndsIn 20 (T2 m.text m.text.size s true seen') m' ∧ (m'.outcome = some .matched ∧ m'.start = s ∧ m'.handed = end2 m.text s)
      rcases h3 with h3 | h3
      · obtain ⟨m', a, b⟩ := T2_lf (first := true) (seen := seen') (show s < m.text.size by omega) h3
        refine ⟨m', a.more (by decide), ?_⟩
        rw [end2, if_neg (fun z => by rw [h3] at z; exact absurd z.1 (by decide))]
        exact b
      · by_cases q2 : s + 1 < m.text.size ∧ m.text.getD (s + 1) 0 = 10
        · obtain ⟨m', a, b⟩ := T2_crlf (first := true) (seen := seen') (show s < m.text.size by omega) h3 q2.1 q2.2
          refine ⟨m', a.more (by decide), ?_⟩
          rw [end2, if_pos ⟨h3, q2⟩]
          exact b
        · obtain ⟨m', a, b⟩ := T2_cr (first := true) (seen := seen') (show s < m.text.size by omega) h3 q2
          refine ⟨m', a.more (by decide), ?_⟩
          rw [end2, if_neg fun z => q2 z.2]
          exact b
  · unfold forSearch
    show ∃ m', EndsIn 20 (if pos > t.size || decide (t.size - pos < 1) then _ else _) m' ∧ _
    rw [if_pos (by simp; omega), show t.size - pos = 0 by omega]
    exact ⟨_, EndsIn.more (N := 1) ⟨rfl, rfl⟩ (by decide), rfl⟩
end Mine
end

section
open PySem PySem.W PySem.Calls PyProof.Rows
set_option Elab.async false
namespace Mine
set_option maxRecDepth 100000
set_option maxHeartbeats 4000000
open PySem.Builtin PySem.Builtin.Re

theorem slot_sub : Slot "re.Pattern" "sub" "re.Pattern.sub" :=
  .of (owner := "re.Pattern") (n := "sub") (by rw [typeLookup_type, builtinLookup_eq_fast]; kernel_rfl) (by decide +kernel) (by decide +kernel) (by decide +kernel)
    (by first | exact .inl (by decide +kernel) | exact .inr (by decide +kernel)) (by rw [isSubtype_type]; kernel_rfl)
theorem type_sub : typeOf (.builtin "re.Pattern.sub") = pure (.type "method_descriptor") := by show builtinType _ = _; rw [builtinType_eq_fast]; kernel_rfl
theorem entry_sub : entryFor table "re.Pattern.sub" = some Builtin.«re.Pattern.sub» := entryFor_of_tree (by kernel_rfl)
theorem entry_subloop : entryFor table "re.Pattern.sub.loop" = some Builtin.«re.Pattern.sub.loop» := entryFor_of_tree (by kernel_rfl)
theorem args_sub (a b c : Value) : argsOk "re.Pattern.sub" ⟨[a, b, c], []⟩ := by
  unfold argsOk; kernel_rfl
theorem plain_pattern : PlainAttrs "re.Pattern" :=
  ⟨⟨"object.__getattribute__", by rw [typeLookup_type, builtinLookup_eq_fast]; kernel_rfl, by decide +kernel⟩, by rw [typeLookup_type, builtinLookup_eq_fast]; kernel_rfl⟩

section
variable {M : Model} {A : Around} {E : Value → Shared → Prop} {s : Shared}

theorem drive_ok {m' : Sre.M} {Q : Sre.M → Shared → Prop} (hQ : Q m' s) : ∀ (K N : Nat) (m : Sre.M), EndsIn N m m' → N ≤ 4 * K → 0 < K → wpAny M A (reDrive K m) Q E s
  | 0, _, _, _, _, h => absurd h (Nat.lt_irrefl 0)
  | K + 1, N, m, h, hk, _ => by
    rw [reDrive]
    show wpAny M A (if (m.runFor 4).outcome.isSome = true then pure (m.runFor 4) else (rule "sre.turn" >>= fun _ => reDrive K (m.runFor 4))) Q E s
    cases q : (m.runFor 4).outcome.isSome
    · rw [if_neg Bool.false_ne_true]
      have h4 : 4 < N := by
        rcases Nat.lt_or_ge 4 N with h | h
        · exact h
        · have := EndsIn.more ‹EndsIn N m m'› h
          rw [this.1, this.2] at q; cases q
      refine wpAny_bind (wpAny_rule ?_)
      refine drive_ok hQ K (N - 4) (m.runFor 4) ⟨?_, h.2⟩ (by omega) (by omega)
      have := h.1
      rw [show N = 4 + (N - 4) by omega, runFor_add] at this
      exact this
    · rw [if_pos rfl]
      have e : m.runFor 4 = m' := by
        rcases Nat.le_total N 4 with h' | h'
        · exact (h.more h').1
        · have := h.1
          rw [show N = 4 + (N - 4) by omega, runFor_add, runFor_done q] at this
          exact this
      rw [e]
      exact wpAny_pure hQ

theorem toEnd_ok {m m' : Sre.M} {N : Nat} {r : Option (Nat × Nat)} {Q : Option Sre.M → Shared → Prop} (h : EndsIn N m m') (hN : N ≤ 4 * 2 ^ 64) (hs : Says m' r)
    (hQ : Q (r.map fun _ => m') s) : wpAny M A (reRunToEnd m) Q E s := by
  unfold reRunToEnd
  refine wpAny_bind (drive_ok ?_ (2 ^ 64) N m h hN (by decide))
  refine wpAny_bind (wpAny_forIn_list _ (fun _ _ s' => s' = s) _ ?_ (fun b s' e => ?_) _ _ rfl)
  · rintro x rest b s' rfl
    cases m'.seen.has x
    · exact wpAny_pure rfl
    · exact wpAny_bind (wpAny_rule (wpAny_pure rfl))
  · subst e
    cases r with
    | none =>
      have hs : m'.outcome = some .failed := hs
      rw [hs]
      exact wpAny_pure hQ
    | some p =>
      have hs : m'.outcome = some .matched := hs.1
      rw [hs]
      exact wpAny_pure hQ
end

/-- the heap bears the pattern p with this code -/
structure PatAt (h : Heap) (p : Addr) (code : Array Nat) : Prop where
  at' : ∃ o vs c, h.get? p = some o ∧ o.cls = .type "re.Pattern" ∧ o.dict = none ∧ o.data = .fields vs ∧ vs.getD 5 .none = .ref c ∧ reRawNat (vs.getD 6 .none) = 0 ∧ reRawNat (vs.getD 2 .none) = 0 ∧
    ∃ oc its n, h.get? c = some oc ∧ oc.cls = .type "tuple" ∧ oc.data = .seq its n ∧ (its.map reRawOf).map (·.toNat) = code

theorem PatAt.keeps {h h' : Heap} {p : Addr} {code : Array Nat} (x : PatAt h p code) (k : ∀ b o, h.get? b = some o → h'.get? b = some o) : PatAt h' p code :=
  let ⟨⟨o, vs, c, a1, a2, a3, a4, a5, a6, a7, oc, its, n, b1, b0, b2, b3⟩⟩ := x
  ⟨⟨o, vs, c, k _ _ a1, a2, a3, a4, a5, a6, a7, oc, its, n, k _ _ b1, b0, b2, b3⟩⟩

section
variable {M : Model} {A : Around} {E : Value → Shared → Prop} {s : Shared}
theorem target_ok {p : Addr} {code : Array Nat} {x : Str} {t : Tok} {Q : ReTarget → Shared → Prop} (P : PatAt s.heap p code)
    (hQ : Q { pattern := .ref p, string := .str x t, code := code, text := x.cps, kind := 0, groups := 0, pos := 0, lim := x.cps.size } s) : wpAny M A (reWholeTarget (.ref p) (.str x t)) Q E s := by
  obtain ⟨o, vs, c, a1, a2, a3, a4, a5, a6, a7, oc, its, n, b1, b0, b2, b3⟩ := P.at'
  unfold reWholeTarget
  refine wpAny_bind (wpAny_fieldsOf a1 a4 ?_)
  refine wpAny_bind (m := reTextOf (.str x t)) (wpAny_pure ?_)
  dsimp only
  rw [a6]
  show wpAny M A (reNoCollectionInside (.str x t) 0 >>= _) Q E s
  refine wpAny_bind (m := reNoCollectionInside (.str x t) 0) (wpAny_pure ?_)
  unfold reRawItems
  rw [a5]
  refine wpAny_bind (wpAny_bind (wpAny_seqItems b1 b2 ?_))
  refine wpAny_pure (wpAny_pure ?_)
  dsimp only [Option.getD]
  rw [b3, a7]
  exact hQ
end

/-- where a search from a place finds -/
abbrev FindFn := Nat → Option (Nat × Nat)

/-- the code's search in this text is told by this function -/
structure Tells (code : Array Nat) (x : Array Nat) (f : FindFn) : Prop where
  found : ∀ d, ∃ N m', N ≤ 4 * 2 ^ 64 ∧ EndsIn N (Sre.forSearch code x 0 d x.size false) m' ∧ Says m' (f d)
  ok : ∀ d a b, f d = some (a, b) → d ≤ a ∧ a < b ∧ b ≤ x.size

/-- what a substitution comes to, from the place d on -/
noncomputable def subR (f : FindFn) (x : Array Nat) (repl : List Nat) : Nat → Nat → List Nat
  | 0, _ => []
  | k + 1, d => match f d with
    | some (a, b) => (x.extract d a).toList ++ (repl ++ subR f x repl k b)
    | none => (x.extract d x.size).toList

theorem join_nil_cps : ∀ texts : List Str, (Str.join ⟨#[]⟩ texts).cps.toList = texts.flatMap (·.cps.toList)
  | [] => rfl
  | [x] => by
    show x.cps.toList = _
    simp
  | x :: y :: r => by
    show (x ++ ⟨#[]⟩ ++ Str.join ⟨#[]⟩ (y :: r)).cps.toList = _
    have h := join_nil_cps (y :: r)
    rw [List.flatMap_cons, ← h]
    show ((x.cps ++ #[]) ++ (Str.join ⟨#[]⟩ (y :: r)).cps).toList = _
    simp

theorem wp_sub_end {prog : Program} {w : World} {A : Around} {s : Shared} {E : Value → Shared → Prop} {D : Addr} {l : List (Str × Tok)} {t : Tok} {Q : Value → Shared → Prop}
    (hl : s.heap.IsList D (strValues l).toArray) (hlen : ((l.map (·.1)).flatMap (·.cps.toList)).length ≤ 2 ^ 23)
    (hQ : ∀ t' k, Q (.str ⟨((l.map (·.1)).flatMap (·.cps.toList)).toArray⟩ t') { s with toks := k }) :
    wpAny (model prog w) A (call (.builtin "str.join") [.str ⟨#[]⟩ t, .ref D]) Q E s := by
  refine SC.join hl rfl ?_ fun t' k => ?_
  · unfold JoinOk
    rw [Bool.not_eq_true', StrLaws.joinTotal]
    have e : ((l.map (·.1)).map (·.length)).sum = ((l.map (·.1)).flatMap (·.cps.toList)).length := by
      rw [List.length_flatMap]
      congr 1
    show decide (_ > sizeLine) = false
    rw [e, decide_eq_false_iff_not, sizeLine_eq]
    show ¬ _ + _ * 0 > _
    omega
  · have e : Txt.join ⟨#[]⟩ (l.map (·.1)) = ⟨((l.map (·.1)).flatMap (·.cps.toList)).toArray⟩ := by
      unfold Txt.join
      rw [StrLaws.glued_eq_join]
      apply Str.ext'
      rw [← join_nil_cps]
    rw [e]
    exact hQ t' k

theorem push_ok {M : Model} {A : Around} {E : Value → Shared → Prop} {s : Shared} {P : Addr} {its : Array Value} {v : Value} {Q : Unit → Shared → Prop} (hl : s.heap.IsList P its) (hsz : its.size ≤ 2 ^ 23)
    (hQ : ∀ h', h'.IsList P (its.push v) → Heap.SameBut P s.heap h' → Q () { s with heap := h' }) : wpAny M A (updateSeq P (·.push v)) Q E s := by
  obtain ⟨o, ho, hc, n, hd⟩ := hl
  obtain ⟨n', hd'⟩ := Obj.data_mapSeq hd (·.push v)
  exact wpAny_updateSeq ho hd (hQ _ ⟨_, Heap.get?_update_self _ ho (Obj.isFreed_of_seq hd'), (Obj.cls_mapSeq ..).trans hc, n', hd'⟩ (Heap.SameBut.update ..)) (by rw [sizeLine_eq]; omega)
    (by rw [Array.size_push, sizeLine_eq]; omega)

theorem PatAt.but {h h' : Heap} {p P : Addr} {code : Array Nat} {its : Array Value} (x : PatAt h p code) (y : h.IsList P its) (k : ∀ b o, b ≠ P → h.get? b = some o → h'.get? b = some o) : PatAt h' p code := by
  obtain ⟨⟨o, vs, c, a1, a2, a3, a4, a5, a6, a7, oc, its, n, b1, b0, b2, b3⟩⟩ := x
  obtain ⟨oP, e1, e2, _⟩ := y
  have n1 : p ≠ P := fun q => by rw [q, e1] at a1; cases a1; rw [e2] at a2; exact absurd (Value.type.inj a2) (by decide)
  have n2 : c ≠ P := fun q => by rw [q, e1] at b1; cases b1; rw [e2] at b0; exact absurd (Value.type.inj b0) (by decide)
  exact ⟨⟨o, vs, c, k _ _ n1 a1, a2, a3, a4, a5, a6, a7, oc, its, n, k _ _ n2 b1, b0, b2, b3⟩⟩

theorem strValues_push (l : List (Str × Tok)) (x : Str) (t : Tok) : (strValues l).toArray.push (.str x t) = (strValues (l ++ [(x, t)])).toArray := by
  simp [strValues]

section
variable {w : World} {A : Around} {prog : Program} {x repl : Str} {tx tr : Tok} {p : Addr} {code : Array Nat} {f : FindFn} {R : Result → Shared → Prop}

theorem len_a {F d a b n r : Nat} (h1 : F ≤ 5 * d) (h2 : d ≤ a) (h3 : a < b) (h4 : r ≤ 4) : F + (Min.min a n - d) + r ≤ 5 * b := by
  have := Nat.min_le_left a n
  generalize Min.min a n = x at *
  omega
theorem len_b {d a n : Nat} (h : n ≤ 2 ^ 20) : Min.min a n - d ≤ 16777216 := Nat.le_trans (Nat.sub_le _ _) (Nat.le_trans (Nat.min_le_right _ _) (Nat.le_trans h (by decide)))
theorem len_c {F d n : Nat} (h : n ≤ 2 ^ 20) (h1 : F ≤ 5 * d) (h2 : d < n) : F + (Min.min n n - d) ≤ 2 ^ 23 := by
  rw [Nat.min_self]
  omega
theorem len_d {F d n : Nat} (h : n ≤ 2 ^ 20) (h1 : F ≤ 2 * d + 1) (h2 : d < n) : F ≤ 2 ^ 23 := by omega

theorem subloop_ok (Tl : Tells code x.cps f) (hx : x.cps.size ≤ 2 ^ 20) (hr : repl.cps.size ≤ 4) : ∀ (k d : Nat) (n : Int) (l : List (Str × Tok)) (s : Shared) (P : Addr),
    PatAt s.heap p code → s.heap.IsList P (strValues l).toArray → x.cps.size < d + k → d ≤ x.cps.size → l.length ≤ 2 * d →
    (((l.map (·.1)).flatMap (·.cps.toList)).length ≤ 5 * d) →
    (∀ h' tk t', (∀ b o, b ≠ P → s.heap.get? b = some o → h'.get? b = some o) → R (.ok (.ret (.str ⟨((l.map (·.1)).flatMap (·.cps.toList) ++ subR f x.cps repl.cps.toList k d).toArray⟩ t'))) { s with heap := h', toks := tk }) →
    codeAny (model prog w) A (.builtin "re.Pattern.sub.loop" ⟨[.ref p, .str x tx, .str repl tr, rawInt 0, rawInt 0, rawInt n, rawInt (d : Nat), rawInt (d : Nat), .bool false, .ref P, .bool false], []⟩) R s
  | 0, d, n, l, s, P, hp, hl, hk, hd, hll, hlt, hR => by omega
  | k + 1, d, n, l, s, P, hp, hl, hk, hd, hll, hlt, hR => by
    obtain ⟨N, m', hN, hE, hS⟩ := Tl.found d
    refine codeAny_builtin entry_subloop ?_
    unfold Builtin.«re.Pattern.sub.loop»
    simp only [rawInt]
    refine wpAny_bind (target_ok hp ?_)
    dsimp only
    simp only [beq_self_eq_true, if_true, bne_self_eq_false, Bool.false_and, Bool.false_eq_true, if_false, pure_bind, Int.toNat_natCast]
    refine wpAny_bind (m := reLiteralCannotBeTurned _) (wpAny_pure ?_)
    unfold reNextFound
    refine wpAny_bind (toEnd_ok hE hN hS ?_)
    have hsz : (strValues l).toArray.size ≤ 2 ^ 22 := by
      rw [List.size_toArray]; unfold strValues; rw [List.length_map]; omega
    cases hf : f d with
    | none =>
      dsimp only [Option.map_none]
      have fin : ∀ (l' : List (Str × Tok)) (h1 : Heap) (tk1 : Nat) (t0 : Tok), h1.IsList P (strValues l').toArray → (∀ b o, b ≠ P → s.heap.get? b = some o → h1.get? b = some o) →
          ((l'.map (·.1)).flatMap (·.cps.toList)).length ≤ 2 ^ 23 → (l'.map (·.1)).flatMap (·.cps.toList) = (l.map (·.1)).flatMap (·.cps.toList) ++ (x.cps.extract d x.cps.size).toList →
          wpAny (model prog w) (A.under (Code.builtin "re.Pattern.sub.loop" { pos := [Value.ref p, Value.str x tx, Value.str repl tr, Value.int 0 0, Value.int 0 0, Value.int n 0, Value.int (↑d) 0, Value.int (↑d) 0, Value.bool false, Value.ref P, Value.bool false] }))
            (do
              let o ← seqItems? (Value.ref P)
              if (o.getD #[]).isEmpty = true then ret (Value.str ⟨#[]⟩ t0) else do
                let r ← call (Value.builtin "str.join") [Value.str ⟨#[]⟩ t0, Value.ref P]
                ret r)
            (fun fin s' => match fin with | .done f => R (.ok f) s' | .again c' => c'.quiet = true ∧ codeAny (model prog w) A c' R s') (fun e s' => R (.error e) s') { s with heap := h1, toks := tk1 } := by
        intro l' h1 tk1 t0 hl' hk' hlen htx
        have last : ∀ tk t', R (.ok (.ret (.str ⟨((l'.map (·.1)).flatMap (·.cps.toList)).toArray⟩ t'))) { s with heap := h1, toks := tk } := by
          intro tk t'
          have := hR h1 tk t' hk'
          rw [subR, hf] at this
          rw [htx]
          exact this
        obtain ⟨oP, e1, e2, nP, e3⟩ := id hl'
        refine wpAny_bind (wpAny_seqItems (s := { s with heap := h1, toks := tk1 }) e1 e3 ?_)
        cases l' with
        | nil => exact wpAny_pure (last _ _)
        | cons a r => exact wpAny_bind (wp_sub_end (s := { s with heap := h1, toks := tk1 }) hl' hlen fun t' tk => wpAny_pure (last _ _))
      have slice0 : ∀ (s' : Shared) (Q : Value → Shared → Prop) (E : Value → Shared → Prop), (∀ t0, Q (.str ⟨#[]⟩ t0) { s' with toks := s'.toks + 1 }) →
          wpAny (model prog w) (A.under (Code.builtin "re.Pattern.sub.loop" { pos := [Value.ref p, Value.str x tx, Value.str repl tr, Value.int 0 0, Value.int 0 0, Value.int n 0, Value.int (↑d) 0, Value.int (↑d) 0, Value.bool false, Value.ref P, Value.bool false] }))
            (reSlice x.cps 0 0 0) Q E s' := fun s' Q E hQ => by
        show wpAny _ _ (mkStr ⟨x.cps.extract 0 0⟩) _ _ _
        have e : x.cps.extract 0 0 = #[] := by simp
        rw [e]
        exact wpAny_mkStr (hQ _) (by show 0 ≤ sizeLine; exact Nat.zero_le _)
      by_cases hdx : d < x.cps.size
      · rw [if_pos hdx]
        refine wpAny_bind ?_
        show wpAny _ _ (mkStr ⟨x.cps.extract d x.cps.size⟩) _ _ _
        refine wpAny_mkStr ?_ (by show (x.cps.extract d x.cps.size).size ≤ sizeLine; rw [Array.size_extract, sizeLine_eq]; exact len_b hx)
        refine wpAny_bind (push_ok (s := { s with toks := s.toks + 1 }) hl (by omega) fun h1 hl1 hs1 => ?_)
        rw [strValues_push] at hl1
        have etx : ((l ++ [((⟨x.cps.extract d x.cps.size⟩ : Str), s.toks)]).map (·.1)).flatMap (·.cps.toList) = (l.map (·.1)).flatMap (·.cps.toList) ++ (x.cps.extract d x.cps.size).toList := by
          rw [List.map_append, List.flatMap_append]
          simp
        refine wpAny_bind (slice0 _ _ _ fun t0 => ?_)
        refine fin _ h1 _ t0 hl1 (fun b o hb e => (hs1.2 b hb).trans e) ?_ etx
        have z1 : (x.cps.extract d x.cps.size).toList.length = Min.min x.cps.size x.cps.size - d := by rw [Array.length_toList (xs := x.cps.extract d x.cps.size), Array.size_extract]
        rw [etx, List.length_append, z1]
        exact len_c hx hlt hdx
      · rw [if_neg hdx]
        refine wpAny_bind (slice0 _ _ _ fun t0 => ?_)
        refine fin l s.heap _ t0 hl (fun _ _ _ e => e) (by omega) ?_
        obtain rfl : d = x.cps.size := by omega
        simp
    | some ab =>
      obtain ⟨a, b⟩ := ab
      rw [hf] at hS
      obtain ⟨o1, st, hnd⟩ := hS
      obtain ⟨k1, k2, k3⟩ := Tl.ok d a b hf
      dsimp only [Option.map_some]
      rw [st, hnd]
      have tail : ∀ (l' : List (Str × Tok)) (h1 : Heap) (tk1 : Nat) (E : Value → Shared → Prop), h1.IsList P (strValues l').toArray → (∀ b o, b ≠ P → s.heap.get? b = some o → h1.get? b = some o) → l'.length ≤ 2 * d + 1 →
          (l'.map (·.1)).flatMap (·.cps.toList) = (l.map (·.1)).flatMap (·.cps.toList) ++ (x.cps.extract d a).toList →
          wpAny (model prog w) (A.under (Code.builtin "re.Pattern.sub.loop" { pos := [Value.ref p, Value.str x tx, Value.str repl tr, Value.int 0 0, Value.int 0 0, Value.int n 0, Value.int (↑d) 0, Value.int (↑d) 0, Value.bool false, Value.ref P, Value.bool false] }))
            (if (Value.str repl tr != Value.none) = true then do
              updateSeq P fun x => x.push (Value.str repl tr)
              again (Code.builtin "re.Pattern.sub.loop" { pos := [Value.ref p, Value.str x tx, Value.str repl tr, Value.int 0 0, Value.int 0 0, Value.int (n + 1) 0, Value.int (↑b) 0, Value.int (↑b) 0, Value.bool (b == a), Value.ref P, Value.bool false] })
             else again (Code.builtin "re.Pattern.sub.loop" { pos := [Value.ref p, Value.str x tx, Value.str repl tr, Value.int 0 0, Value.int 0 0, Value.int (n + 1) 0, Value.int (↑b) 0, Value.int (↑b) 0, Value.bool (b == a), Value.ref P, Value.bool false] }))
            (fun fin s' => match fin with | .done f => R (.ok f) s' | .again c' => c'.quiet = true ∧ codeAny (model prog w) A c' R s') E { s with heap := h1, toks := tk1 } := by
        intro l' h1 tk1 E hl' hk' hlen htx
        rw [if_pos (show (Value.str repl tr != Value.none) = true from rfl)]
        have hsz' : (strValues l').toArray.size ≤ 2 ^ 23 := by
          rw [List.size_toArray]; unfold strValues; rw [List.length_map]; exact len_d hx hlen (Nat.lt_of_le_of_lt k1 (Nat.lt_of_lt_of_le k2 k3))
        refine wpAny_bind (push_ok (s := { s with heap := h1, toks := tk1 }) hl' hsz' fun h2 hl2 hs2 => ?_)
        rw [strValues_push] at hl2
        have hk2 : ∀ b o, b ≠ P → s.heap.get? b = some o → h2.get? b = some o := fun b o hb e => (hs2.2 b hb).trans (hk' b o hb e)
        rw [show (b == a) = false from beq_eq_false_iff_ne.mpr (by omega)]
        refine wpAny_pure ⟨Code.quiet_builtin _ (by decide +kernel), ?_⟩
        have etx : ((l' ++ [(repl, tr)]).map (·.1)).flatMap (·.cps.toList) = (l.map (·.1)).flatMap (·.cps.toList) ++ (x.cps.extract d a).toList ++ repl.cps.toList := by
          rw [List.map_append, List.flatMap_append, htx]
          simp
        refine subloop_ok Tl hx hr k b (n + 1) (l' ++ [(repl, tr)]) _ P (PatAt.but hp hl hk2) hl2 (by omega) k3 (by rw [List.length_append, List.length_singleton]; omega) ?_ ?_
        · have z1 : (x.cps.extract d a).toList.length = Min.min a x.cps.size - d := by rw [Array.length_toList (xs := x.cps.extract d a), Array.size_extract]
          have z2 : repl.cps.toList.length = repl.cps.size := Array.length_toList (xs := repl.cps)
          rw [etx, List.length_append, List.length_append, z1, z2]
          exact len_a hlt k1 k2 hr
        · intro h' tk t' hk3
          have := hR h' tk t' fun b o hb e => hk3 b o hb (hk2 b o hb e)
          rw [subR, hf] at this
          rw [etx]
          simpa only [List.append_assoc] using this
      by_cases hda : d < a
      · rw [if_pos hda]
        refine wpAny_bind ?_
        show wpAny _ _ (mkStr ⟨x.cps.extract d a⟩) _ _ _
        refine wpAny_mkStr ?_ (by show (x.cps.extract d a).size ≤ sizeLine; rw [Array.size_extract, sizeLine_eq]; exact len_b hx)
        refine wpAny_bind (push_ok (s := { s with toks := s.toks + 1 }) hl (by omega) fun h1 hl1 hs1 => ?_)
        rw [strValues_push] at hl1
        refine tail _ h1 _ _ hl1 (fun b o hb e => (hs1.2 b hb).trans e) (by rw [List.length_append, List.length_singleton]; omega) ?_
        rw [List.map_append, List.flatMap_append]
        simp
      · rw [if_neg hda]
        obtain rfl : d = a := by omega
        exact tail l s.heap s.toks _ hl (fun _ _ _ e => e) (by omega) (by simp)
end
end Mine
end

section
open PySem PySem.W PySem.Calls PyProof.Rows
set_option Elab.async false
namespace Mine
set_option maxRecDepth 100000
set_option maxHeartbeats 4000000
open PySem.Builtin PySem.Builtin.Re

theorem no_call_str : typeLookup (.type "str") (Str.ofString "__call__") = pure none := by rw [typeLookup_type, builtinLookup_eq_fast]; kernel_rfl
theorem named_sub (a b : Value) : reNamed "re.Pattern.sub" "sub" ["repl", "string", "count"] 2 [a, b] [] = pure [some a, some b, none] := by
  rfl

section
variable {w : World} {A : Around} {prog : Program} {x repl : Str} {tx tr : Tok} {p : Addr} {code : Array Nat} {f : FindFn} {s : Shared} {Q : Value → Shared → Prop} {E : Value → Shared → Prop}

theorem sub_ok (Tl : Tells code x.cps f) (hx : x.cps.size ≤ 2 ^ 20) (hr : repl.cps.size ≤ 4) (hb : repl.cps.contains 92 = false) (hp : PatAt s.heap p code)
    (hQ : ∀ h' tk t', (∀ b o, s.heap.get? b = some o → h'.get? b = some o) → Q (.str ⟨(subR f x.cps repl.cps.toList (x.cps.size + 1) 0).toArray⟩ t') { s with heap := h', toks := tk }) :
    wpAny (model prog w) A (call (.builtin "re.Pattern.sub") [.ref p, .str repl tr, .str x tx]) Q E s := by
  have hT : s.TypeIs (.ref p) "re.Pattern" := by
    obtain ⟨⟨o, vs, c, a1, a2, _⟩⟩ := hp
    exact ⟨o, a1, a2⟩
  refine wpAny_call (codeAny_call_builtin slot_sub.plain entry_sub (slot_sub.check _ _ _ _ _ _ _ _ hT (args_sub _ _ _) ?_))
  show wpAny _ _ (reSubstitute "re.Pattern.sub" "sub" false _) _ _ _
  unfold reSubstitute
  dsimp only
  rw [named_sub]
  refine wpAny_bind (wpAny_pure ?_)
  dsimp only
  refine wpAny_bind (wpAny_pure ?_)
  refine wpAny_bind (wpAny_specialOf (typeIs_str _ _ _) no_call_str ?_)
  simp only [Option.isSome_none, Bool.false_eq_true, if_false]
  refine wpAny_bind (m := asStr? (.str repl tr)) (wpAny_pure ?_)
  dsimp only
  rw [hb]
  refine wpAny_bind (wpAny_pure ?_)
  rw [if_pos (by rfl)]
  refine wpAny_bind (wpAny_pure ?_)
  dsimp only
  refine wpAny_bind (wpAny_holding (target_ok hp ?_))
  rw [if_neg (by decide)]
  refine wpAny_bind (wpAny_newObj_type ?_ (by show (0 : Nat) ≤ sizeLine; exact Nat.zero_le _))
  refine wpAny_pure ⟨Code.quiet_builtin _ (by decide +kernel), ?_⟩
  refine subloop_ok (P := s.heap.objs.size) Tl hx hr (x.cps.size + 1) 0 0 [] _ (hp.keeps fun b o e => Heap.get?_push_of_some _ e) ⟨_, Heap.get?_push_size _ rfl, rfl, 0, rfl⟩ (by omega) (by omega) (by simp) (by simp) ?_
  intro h' tk t' hk
  exact hQ h' tk t' fun b o e => hk b o (Nat.ne_of_lt (Heap.lt_size e)) (Heap.get?_push_of_some _ e)
end

/-- what the second pattern's substitution makes of a text (the flag: a return has just been read) -/
noncomputable def eols : Bool → List Nat → List Nat
  | _, [] => []
  | cr, c :: r => if c = 10 then (if cr = true then eols false r else 13 :: 10 :: eols false r) else if c = 13 then 13 :: 10 :: eols true r else c :: eols false r
/-- what the first pattern's substitution makes of a text -/
noncomputable def dots : Bool → List Nat → List Nat
  | _, [] => []
  | b, c :: r => (if b = true ∧ c = 46 then [46, 46] else [c]) ++ dots (c == 10) r

noncomputable def f1 (t : Array Nat) : FindFn := fun d => (find1 t (t.size - d) d).map fun p => (p, p + 1)
noncomputable def f2 (t : Array Nat) : FindFn := fun d => (find2 t (t.size - d) d).map fun p => (p, end2 t p)

theorem find1_spec {t : Array Nat} : ∀ {k s p : Nat}, find1 t k s = some p → p < s + k ∧ s ≤ p
  | 0, _, _, h => by cases h
  | k + 1, s, p, h => by
    rw [find1] at h
    split at h
    · cases h; omega
    · have := find1_spec h; omega

theorem lt_span {a d n : Nat} (h : a < d + (n - d)) (h2 : d ≤ a) : a < n := by omega

theorem tells1 (t : Array Nat) (h : t.size ≤ 2 ^ 20) : Tells code1 t (f1 t) where
  found := fun d => by
    obtain ⟨m', h1, h2⟩ := found1 t d
    exact ⟨_, m', by omega, h1, h2⟩
  ok := fun d a b e => by
    unfold f1 at e
    obtain ⟨p, hp, e⟩ := Option.map_eq_some_iff.mp e
    cases e
    have := find1_spec hp
    omega
theorem tells2 (t : Array Nat) : Tells code2 t (f2 t) where
  found := fun d => by
    obtain ⟨m', h1, h2⟩ := found2 t d
    exact ⟨_, m', by decide, h1, h2⟩
  ok := fun d a b e => by
    unfold f2 at e
    obtain ⟨p, hp, e⟩ := Option.map_eq_some_iff.mp e
    cases e
    have := find2_spec hp
    have ha := lt_span this.1 this.2.1
    unfold end2
    by_cases h : t.getD a 0 = 13 ∧ a + 1 < t.size ∧ t.getD (a + 1) 0 = 10
    · rw [if_pos h]
      exact ⟨this.2.1, Nat.lt_add_of_pos_right (by decide), h.2.1⟩
    · rw [if_neg h]
      exact ⟨this.2.1, Nat.lt_succ_self _, ha⟩

theorem extract_cons {t : Array Nat} {d e : Nat} (h : d < e) (he : e ≤ t.size) : (t.extract d e).toList = t.getD d 0 :: (t.extract (d + 1) e).toList := by
  obtain ⟨l⟩ := t
  simp only [List.size_toArray] at he
  have hd : d < l.length := by omega
  simp only [List.extract_toArray, List.extract_eq_drop_take]
  rw [← sub_one h, List.drop_eq_getElem_cons hd, List.take_succ_cons]
  congr 1
  simp [hd]

theorem extract_nil {t : Array Nat} {d e : Nat} (h : e ≤ d) : (t.extract d e).toList = [] := by
  obtain ⟨l⟩ := t
  simp [List.extract_eq_take_drop, Nat.sub_eq_zero_of_le h]

theorem find2_none {t : Array Nat} : ∀ {j d : Nat}, d + j = t.size → find2 t j d = none → eols false (t.extract d t.size).toList = (t.extract d t.size).toList
  | 0, d, h, _ => by rw [extract_nil (by omega)]; rfl
  | j + 1, d, h, e => by
    rw [find2] at e
    split at e
    · cases e
    · rename_i hc
      rw [not_or] at hc
      rw [extract_cons (by omega) (Nat.le_refl _), eols, if_neg hc.1, if_neg hc.2, find2_none (by omega) e]

theorem eols_flag {c : Nat} {r : List Nat} (h : c ≠ 10) : eols true (c :: r) = eols false (c :: r) := by
  rw [eols, eols, if_neg h, if_neg h]

theorem find2_some {t : Array Nat} : ∀ {j d p : Nat}, d + j = t.size → find2 t j d = some p →
    eols false (t.extract d t.size).toList = (t.extract d p).toList ++ 13 :: 10 :: eols false (t.extract (end2 t p) t.size).toList
  | 0, _, _, _, e => by cases e
  | j + 1, d, p, h, e => by
    rw [find2] at e
    split at e
    · rename_i hc
      cases e
      rw [extract_nil (t := t) (Nat.le_refl d), List.nil_append, extract_cons (by omega) (Nat.le_refl _)]
      rcases hc with hc | hc
      · rw [hc, eols, if_pos rfl, if_neg (by decide), end2, if_neg (fun z => by rw [hc] at z; exact absurd z.1 (by decide))]
      · rw [hc, eols, if_neg (by decide), if_pos rfl]
        by_cases q : d + 1 < t.size ∧ t.getD (d + 1) 0 = 10
        · rw [end2, if_pos ⟨hc, q⟩, extract_cons q.1 (Nat.le_refl _), q.2, eols, if_pos rfl, if_pos rfl]
        · rw [end2, if_neg fun z => q z.2]
          by_cases q1 : d + 1 < t.size
          · have q2 : t.getD (d + 1) 0 ≠ 10 := fun z => q ⟨q1, z⟩
            rw [extract_cons q1 (Nat.le_refl _), eols_flag q2]
          · rw [extract_nil (by omega)]; rfl
    · rename_i hc
      rw [not_or] at hc
      have hp := find2_spec e
      rw [extract_cons (by omega) (Nat.le_refl _), eols, if_neg hc.1, if_neg hc.2, find2_some (by omega) e, extract_cons (d := d) (e := p) (by omega) (by omega)]
      rfl

theorem subR2 {t : Array Nat} : ∀ (k d : Nat), t.size < d + k → d ≤ t.size → subR (f2 t) t [13, 10] k d = eols false (t.extract d t.size).toList
  | 0, d, h, h' => by omega
  | k + 1, d, h, h' => by
    rw [subR]
    unfold f2
    cases e : find2 t (t.size - d) d with
    | none =>
      show (t.extract d t.size).toList = _
      rw [find2_none (by omega) e]
    | some p =>
      have := (tells2 t).ok d p (end2 t p) (by unfold f2; rw [e]; rfl)
      show (t.extract d p).toList ++ ([13, 10] ++ subR (f2 t) t [13, 10] k (end2 t p)) = _
      rw [subR2 k (end2 t p) (by omega) (by omega), find2_some (by omega) e]
      rfl

theorem find1_none {t : Array Nat} : ∀ {j d : Nat}, d + j = t.size → find1 t j d = none → dots (d == 0 || t.getD (d - 1) 0 == 10) (t.extract d t.size).toList = (t.extract d t.size).toList
  | 0, d, h, _ => by rw [extract_nil (by omega)]; rfl
  | j + 1, d, h, e => by
    rw [find1] at e
    split at e
    · cases e
    · rename_i hc
      have hc' : ¬ ((d == 0 || t.getD (d - 1) 0 == 10) = true ∧ t.getD d 0 = 46) := by simpa using hc
      have ih := find1_none (t := t) (j := j) (d := d + 1) (by omega) e
      rw [extract_cons (by omega) (Nat.le_refl _), dots, if_neg hc']
      have e2 : (d + 1 == 0 || t.getD (d + 1 - 1) 0 == 10) = (t.getD d 0 == 10) := by simp
      rw [e2] at ih
      rw [ih]
      rfl
theorem find1_some {t : Array Nat} : ∀ {j d p : Nat}, d + j = t.size → find1 t j d = some p →
    dots (d == 0 || t.getD (d - 1) 0 == 10) (t.extract d t.size).toList = (t.extract d p).toList ++ 46 :: 46 :: dots false (t.extract (p + 1) t.size).toList
  | 0, _, _, _, e => by cases e
  | j + 1, d, p, h, e => by
    rw [find1] at e
    split at e
    · rename_i hc
      cases e
      have hc' : (d == 0 || t.getD (d - 1) 0 == 10) = true ∧ t.getD d 0 = 46 := by simpa using hc
      rw [extract_nil (t := t) (Nat.le_refl d), List.nil_append, extract_cons (by omega) (Nat.le_refl _), dots, if_pos hc', hc'.2]
      rfl
    · rename_i hc
      have hp := find1_spec e
      have hc' : ¬ ((d == 0 || t.getD (d - 1) 0 == 10) = true ∧ t.getD d 0 = 46) := by simpa using hc
      have ih := find1_some (t := t) (j := j) (d := d + 1) (by omega) e
      have e2 : (d + 1 == 0 || t.getD (d + 1 - 1) 0 == 10) = (t.getD d 0 == 10) := by simp
      rw [e2] at ih
      rw [extract_cons (by omega) (Nat.le_refl _), dots, if_neg hc', ih, extract_cons (d := d) (e := p) (by omega) (by omega)]
      rfl
theorem find1_dot {t : Array Nat} : ∀ {j d p : Nat}, find1 t j d = some p → t.getD p 0 = 46
  | 0, _, _, e => by cases e
  | j + 1, d, p, e => by
    rw [find1] at e
    split at e
    · rename_i hc; cases e; exact hc.2
    · exact find1_dot e

theorem subR1 {t : Array Nat} (hs : t.size ≤ 2 ^ 20) : ∀ (k d : Nat), t.size < d + k → d ≤ t.size → subR (f1 t) t [46, 46] k d = dots (d == 0 || t.getD (d - 1) 0 == 10) (t.extract d t.size).toList
  | 0, d, h, h' => by omega
  | k + 1, d, h, h' => by
    rw [subR]
    unfold f1
    cases e : find1 t (t.size - d) d with
    | none =>
      show (t.extract d t.size).toList = _
      rw [find1_none (by omega) e]
    | some p =>
      have := (tells1 t hs).ok d p (p + 1) (by unfold f1; rw [e]; rfl)
      show (t.extract d p).toList ++ ([46, 46] ++ subR (f1 t) t [46, 46] k (p + 1)) = _
      have e2 : (p + 1 == 0 || t.getD (p + 1 - 1) 0 == 10) = false := by
        rw [Nat.add_sub_cancel, find1_dot e]; rfl
      rw [subR1 hs k (p + 1) (by omega) (by omega), find1_some (by omega) e, e2]
      rfl
theorem extract_all (t : Array Nat) : (t.extract 0 t.size).toList = t.toList := by simp

section
variable {w : World} {A : Around} {prog : Program} {x : Str} {tx tr : Tok} {p : Addr} {s : Shared} {Q : Value → Shared → Prop} {E : Value → Shared → Prop}
theorem sub2_ok (hx : x.cps.size ≤ 2 ^ 20) (hp : PatAt s.heap p code2)
    (hQ : ∀ h' tk t', (∀ b o, s.heap.get? b = some o → h'.get? b = some o) → Q (.str ⟨(eols false x.cps.toList).toArray⟩ t') { s with heap := h', toks := tk }) :
    wpAny (model prog w) A (call (.builtin "re.Pattern.sub") [.ref p, .str (Str.ofString "\x0d\n") tr, .str x tx]) Q E s := by
  refine sub_ok (tells2 x.cps) hx (by decide) (by decide +kernel) hp fun h' tk t' hk => ?_
  have e : (Str.ofString "\x0d\n").cps.toList = [13, 10] := by decide
  rw [e, subR2 _ 0 (by omega) (by omega), extract_all]
  exact hQ h' tk t' hk
theorem sub1_ok (hx : x.cps.size ≤ 2 ^ 20) (hp : PatAt s.heap p code1)
    (hQ : ∀ h' tk t', (∀ b o, s.heap.get? b = some o → h'.get? b = some o) → Q (.str ⟨(dots true x.cps.toList).toArray⟩ t') { s with heap := h', toks := tk }) :
    wpAny (model prog w) A (call (.builtin "re.Pattern.sub") [.ref p, .str (Str.ofString "..") tr, .str x tx]) Q E s := by
  refine sub_ok (tells1 x.cps hx) hx (by decide) (by decide +kernel) hp fun h' tk t' hk => ?_
  have e : (Str.ofString "..").cps.toList = [46, 46] := by decide
  rw [e, subR1 hx _ 0 (by omega) (by omega), extract_all]
  exact hQ h' tk t' hk
end
end Mine
end

section
open PySem PySem.W PySem.Calls PyProof.Rows
open Mine
local macro_rules | `(tactic| walk_at $s:str) => do if ["assign Tuple", "binaryOp LShift int int", "call builtin:divmod", "call builtin:list.count", "call builtin:list.reverse", "call builtin:str.endswith", "call builtin:str.find", "call builtin:str.join", "call builtin:str.split", "call builtin:sum", "call ref", "call type:range", "compareOp In int ref", "compareOp NotEq bool bool", "compareOp NotEq int int", "compareOp NotEq ref ref", "eval ListComp", "exec For Name Call cons nil", "exec For Name Name cons nil", "exec For Tuple List cons nil", "exec While Compare cons nil", "pyIter ref"].contains s.getString then `(tactic| refine Stop.intro ?_) else Lean.Macro.throwUnsupported
local macro_rules | `(tactic| walk_at "call builtin:list.append") => `(tactic| refine Stop.intro ?_)
local macro_rules | `(tactic| k_all) => `(tactic| assumption)
local macro_rules | `(tactic| walk_at "eval Name") => `(tactic| (k_here; k_dflt (refine' nameX_L ?k1 ?k2 ?_; (case k1 => k_asm); (case k2 => assumption); k_whole)))

section
open PySem PySem.W PySem.Calls PyProof.Rows
set_option Elab.async false
namespace Mine
set_option maxRecDepth 100000
set_option maxHeartbeats 8000000

theorem fill3 (h : PySem.Challenge.rw_ta0035_01.about = [] → hd.heap_39 = hd.heap_39) : (PySem.Challenge.rw_ta0035_01.about = [] → hd.heap_39 = hd.heap_39) := by
  k_fill
  exact h

theorem pat1_of {w : World} {h : Heap} (X : (hd.heap_39 w.params).In h) : PatAt h 36 code1 :=
  ⟨⟨_, _, _, X 36 _ (by with_unfolding_all rfl), rfl, rfl, rfl, rfl, rfl, rfl, _, _, _, X 35 _ (by with_unfolding_all rfl), rfl, rfl, by decide +kernel⟩⟩
theorem pat2_of {w : World} {h : Heap} (X : (hd.heap_39 w.params).In h) : PatAt h 41 code2 :=
  ⟨⟨_, _, _, X 41 _ (by with_unfolding_all rfl), rfl, rfl, rfl, rfl, rfl, rfl, _, _, _, X 40 _ (by with_unfolding_all rfl), rfl, rfl, by decide +kernel⟩⟩
theorem pat_meth {M : Model} {A : Around} {s : Shared} {E : Value → Shared → Prop} {p : Addr} {code : Array Nat} {pl : Sem Bool} {Q : Value × List Value → Shared → Prop} (P : PatAt s.heap p code) (h : Q (.builtin "re.Pattern.sub", [.ref p]) s) :
    wpAny M A (getMethod (.ref p) (Str.ofString "sub") pl) Q E s := by
  obtain ⟨⟨o, vs, c, a1, a2, a3, _⟩⟩ := P
  exact getMethod_builtin (v := .ref p) ⟨o, a1, a2⟩ plain_pattern slot_sub type_sub (fun a e => by cases e; exact ⟨o, a1, a3⟩) h

section
variable {w : World} {A : Around} {lo : List Str} {mean : ExcName → Option Value} {mg mb : Str → Option Value} {gens : Array GenState} {drawn : Drawn} {os : OsState} {tk : Nat}
  {g hp : Heap} {L : Addr} {m : Str → Option Value} {news : List (Addr × Obj)}
theorem sub2_at (G : Gd w lo mean mg mb g) (F : Fr g L hp m) (N : News g L hp news) {x : Str} {tx tr : Tok} (hx : x.cps.size ≤ 2 ^ 20) {Q : Value → Shared → Prop} {E : Value → Shared → Prop}
    (hQ : ∀ h' tk' t', Fr g L h' m → News g L h' news → Q (.str ⟨(eols false x.cps.toList).toArray⟩ t') ⟨h', gens, drawn, tk', os⟩) :
    wpAny (model prog0 w) A (call (.builtin "re.Pattern.sub") [.ref 41, .str (Str.ofString "\x0d\n") tr, .str x tx]) Q E ⟨hp, gens, drawn, tk, os⟩ :=
  sub2_ok hx (pat2_of (G.X.keeps F.keep)) fun h' tk' t' hk => hQ h' tk' t' (Fr.keepsAll F hk) (News.keepsAll N hk)
theorem sub1_at (G : Gd w lo mean mg mb g) (F : Fr g L hp m) (N : News g L hp news) {x : Str} {tx tr : Tok} (hx : x.cps.size ≤ 2 ^ 20) {Q : Value → Shared → Prop} {E : Value → Shared → Prop}
    (hQ : ∀ h' tk' t', Fr g L h' m → News g L h' news → Q (.str ⟨(dots true x.cps.toList).toArray⟩ t') ⟨h', gens, drawn, tk', os⟩) :
    wpAny (model prog0 w) A (call (.builtin "re.Pattern.sub") [.ref 36, .str (Str.ofString "..") tr, .str x tx]) Q E ⟨hp, gens, drawn, tk, os⟩ :=
  sub1_ok hx (pat1_of (G.X.keeps F.keep)) fun h' tk' t' hk => hQ h' tk' t' (Fr.keepsAll F hk) (News.keepsAll N hk)
end

theorem eols_len : ∀ (b : Bool) (l : List Nat), (eols b l).length ≤ 2 * l.length
  | _, [] => Nat.zero_le _
  | b, c :: r => by
    have h1 := eols_len false r
    have h2 := eols_len true r
    rw [eols]
    (repeat' split) <;> simp only [List.length_cons] <;> omega

section
variable {w : World} {A : Around} {s : Shared} {lo : List Str} {mean : ExcName → Option Value} {mg mb : Str → Option Value}
local macro_rules | `(tactic| walk_at "getMethod ref") => `(tactic| (k_here; k_dflt (first | (refine' pat_meth (p := 41) (pat2_of (Frag.In.keeps ?k1 (Fr.keep ?k2))) ?_; (case k1 => assumption); (case k2 => k_asm); k_whole) | (refine' pat_meth (p := 36) (pat1_of (Frag.In.keeps ?k1 (Fr.keep ?k2))) ?_; (case k1 => assumption); (case k2 => k_asm); k_whole))))
local macro_rules | `(tactic| walk_at "call builtin:re.Pattern.sub") => `(tactic| (k_here; k_dflt (first | (refine' sub2_at ?g ?f ?n ?h ?_; (case g => assumption); (case f => k_asm); (case n => k_asm); (case h => assumption); k_whole; intro h' tk' t' F' N') | (refine' sub1_at ?g ?f ?n ?h ?_; (case g => assumption); (case f => k_asm); (case n => k_asm); (case h => assumption); k_whole; intro h' tk' t' F' N'))))

theorem fix_ok (G : Gd w lo mean mg mb s.heap) (hA : Amb A 8) {x : Str} {tx : Tok} (hx : x.cps.size ≤ 2 ^ 18)
    {Q : Value → Shared → Prop} {E : Value → Shared → Prop} (hQ : ∀ t s', Keeps s s' → Q (.str ⟨(eols false x.cps.toList).toArray⟩ t) s') :
    wpAny (model prog0 w) A (call (.ref 55) [.str x tx]) Q E s := by
  refine wpAny_call ?_
  have KX := G.X
  have hx2 : x.cps.size ≤ 2 ^ 20 := by omega
  refine' enter (k := 7) (binds := [(Str.ofString "data", .str x tx)]) G hA ?k6 ?k7 ?k9 ?kB ?c2 ?c3 ?c4 ?c5 ?_
  (case k6 => k_is); (case k7 => k_is);  (case k9 => exact BindsTo.of_eq rfl); (case c5 => decide); (case kB => exact locs rfl); (case c2 => exact rfl); (case c3 => exact rfl); (case c4 => exact rfl)
  have T := G.T
  obtain ⟨hp, gens, drawn, toks, os⟩ := s
  dsimp only at *
  intro L h₁ tk F N hA'
  w_top on
  k_steps
  (with_reducible rename Fr _ _ _ _ => F9)
  exact hQ _ ⟨_, gens, drawn, _, os⟩ ⟨_, _, rfl, F9.keep⟩

theorem quote_ok (G : Gd w lo mean mg mb s.heap) (hA : Amb A 8) {x : Str} {tx : Tok} (hx : x.cps.size ≤ 2 ^ 18)
    {Q : Value → Shared → Prop} {E : Value → Shared → Prop} (hQ : ∀ t s', Keeps s s' → Q (.str ⟨(dots true (eols false x.cps.toList)).toArray⟩ t) s') :
    wpAny (model prog0 w) A (call (.ref 48) [.str x tx]) Q E s := by
  refine wpAny_call ?_
  have KX := G.X
  have hx2 : x.cps.size ≤ 2 ^ 20 := by omega
  have hx3 : (⟨(eols false x.cps.toList).toArray⟩ : Str).cps.size ≤ 2 ^ 20 := by
    have := eols_len false x.cps.toList
    rw [Array.length_toList (xs := x.cps)] at this
    rw [List.size_toArray]; omega
  refine' enter (k := 7) (binds := [(Str.ofString "data", .str x tx)]) G hA ?k6 ?k7 ?k9 ?kB ?c2 ?c3 ?c4 ?c5 ?_
  (case k6 => k_is); (case k7 => k_is);  (case k9 => exact BindsTo.of_eq rfl); (case c5 => decide); (case kB => exact locs rfl); (case c2 => exact rfl); (case c3 => exact rfl); (case c4 => exact rfl)
  have T := G.T
  obtain ⟨hp, gens, drawn, toks, os⟩ := s
  dsimp only at *
  intro L h₁ tk F N hA'
  w_top on
  k_steps
  (with_reducible rename Fr _ _ _ _ => F9)
  exact hQ _ ⟨_, gens, drawn, _, os⟩ ⟨_, _, rfl, F9.keep⟩

theorem fix_at {gens : Array GenState} {drawn : Drawn} {os : OsState} {tk : Nat} {g hp : Heap} {L : Addr} {m : Str → Option Value} {news : List (Addr × Obj)} (G : Gd w lo mean mg mb g) (hA : Amb A 8) (F : Fr g L hp m) (N : News g L hp news)
    {x : Str} {tx : Tok} (hx : x.cps.size ≤ 2 ^ 18) {Q : Value → Shared → Prop} {E : Value → Shared → Prop}
    (hQ : ∀ t' h' tk', Fr g L h' m → News g L h' news → Q (.str ⟨(eols false x.cps.toList).toArray⟩ t') ⟨h', gens, drawn, tk', os⟩) :
    wpAny (model prog0 w) A (call (.ref 55) [.str x tx]) Q E ⟨hp, gens, drawn, tk, os⟩ :=
  fix_ok (s := ⟨hp, gens, drawn, tk, os⟩) (G.keeps F.keep) hA hx fun t s' ⟨h', tk, e, hk⟩ => by subst e; exact hQ t h' tk (Fr.keepsAll F hk) (News.keepsAll N hk)
theorem quote_at {gens : Array GenState} {drawn : Drawn} {os : OsState} {tk : Nat} {g hp : Heap} {L : Addr} {m : Str → Option Value} {news : List (Addr × Obj)} (G : Gd w lo mean mg mb g) (hA : Amb A 8) (F : Fr g L hp m) (N : News g L hp news)
    {x : Str} {tx : Tok} (hx : x.cps.size ≤ 2 ^ 18) {Q : Value → Shared → Prop} {E : Value → Shared → Prop}
    (hQ : ∀ t' h' tk', Fr g L h' m → News g L h' news → Q (.str ⟨(dots true (eols false x.cps.toList)).toArray⟩ t') ⟨h', gens, drawn, tk', os⟩) :
    wpAny (model prog0 w) A (call (.ref 48) [.str x tx]) Q E ⟨hp, gens, drawn, tk, os⟩ :=
  quote_ok (s := ⟨hp, gens, drawn, tk, os⟩) (G.keeps F.keep) hA hx fun t s' ⟨h', tk, e, hk⟩ => by subst e; exact hQ t h' tk (Fr.keepsAll F hk) (News.keepsAll N hk)
end
end Mine
end

section
open PySem PySem.Builtin PySem.Builtin.Str
set_option Elab.async false
namespace Mine
open PySem.StrLaws

noncomputable def joinL (sep : List Nat) : List (List Nat) → List Nat
  | [] => []
  | [r] => r
  | r :: q :: t => r ++ (sep ++ joinL sep (q :: t))

abbrev mkS (l : List Nat) : PySem.Str := ⟨l.toArray⟩
theorem mkS_toList (l : List Nat) : (mkS l).cps.toList = l := rfl

theorem join_cps (sep : PySem.Str) : ∀ rows : List (List Nat), (Str.join sep (rows.map mkS)).cps.toList = joinL sep.cps.toList rows
  | [] => rfl
  | [r] => rfl
  | r :: q :: t => by
    have ih := join_cps sep (q :: t)
    show ((mkS r ++ sep ++ Str.join sep ((q :: t).map mkS))).cps.toList = _
    rw [Str.cps_append, Str.cps_append, Array.toList_append, Array.toList_append, ih, List.append_assoc]
    rfl

theorem crlf_len : (mkS [13, 10]).length = 2 := rfl

theorem at_iff {x : PySem.Str} {k : Nat} : At x (mkS [13, 10]) x.length k ↔ ∃ t, x.cps.toList.drop k = 13 :: 10 :: t := by
  have hn : x.cps.toList.length = x.length := by simp [Str.length]
  unfold At
  rw [subAt_eq, crlf_len, mkS_toList, beq_iff_eq]
  constructor
  · rintro ⟨h1, h2⟩
    refine ⟨(x.cps.toList.drop k).drop 2, ?_⟩
    have := List.take_append_drop 2 (x.cps.toList.drop k)
    rw [h2] at this
    exact this.symm
  · rintro ⟨t, e⟩
    refine ⟨?_, by rw [e]; rfl⟩
    have := congrArg List.length e
    rw [List.length_drop, hn] at this
    simp only [List.length_cons] at this
    omega

theorem parts_rows (x : PySem.Str) : ∀ (rows : List (List Nat)) (a : Nat) (cuts : List Nat) (f : Nat), rows ≠ [] → (∀ r ∈ rows, 13 ∉ r) → a ≤ x.length → x.cps.toList.drop a = joinL [13, 10] rows →
    ChainG x (mkS [13, 10]) x.length a cuts f → (∀ k, f ≤ k → ¬ At x (mkS [13, 10]) x.length k) → partsFrom x 2 a cuts = rows.map mkS
  | [], _, _, _, h, _, _, _, _, _ => absurd rfl h
  | [r], a, cuts, f, _, hr, ha, hx, hc, hf => by
    have hn : x.cps.toList.length = x.length := by simp [Str.length]
    have hr := hr r (.head _)
    have none : ∀ k, a ≤ k → ¬ At x (mkS [13, 10]) x.length k := fun k hk hA => by
      obtain ⟨t, e⟩ := at_iff.mp hA
      have e2 : x.cps.toList.drop k = (joinL [13, 10] [r]).drop (k - a) := by
        rw [← hx, List.drop_drop]; congr 1; omega
      rw [e] at e2
      have : (13 : Nat) ∈ List.drop (k - a) r := by
        show 13 ∈ List.drop (k - a) (joinL [13, 10] [r])
        rw [← e2]; exact .head _
      exact hr (List.mem_of_mem_drop this)
    cases cuts with
    | nil =>
      show [strSub x a x.length] = [mkS r]
      congr 1
      apply Str.ext'
      apply Array.toList_inj.mp
      rw [strSub_toList, hx]
      show r.take _ = r
      rw [List.take_of_length_le]
      have := congrArg List.length hx
      rw [List.length_drop, hn] at this
      exact Nat.le_of_eq (this.symm)
    | cons c t => exact absurd hc.2.1 (none c hc.1)
  | r :: q :: t, a, cuts, f, _, hr, ha, hx, hc, hf => by
    have hn : x.cps.toList.length = x.length := by simp [Str.length]
    have hr0 := hr r (.head _)
    have hx' : x.cps.toList.drop a = r ++ (13 :: 10 :: joinL [13, 10] (q :: t)) := hx
    have hlen := congrArg List.length hx'
    rw [List.length_drop, hn, List.length_append, List.length_cons, List.length_cons] at hlen
    have here : At x (mkS [13, 10]) x.length (a + r.length) := at_iff.mpr ⟨joinL [13, 10] (q :: t), by
      rw [← List.drop_drop, hx', List.drop_left]⟩
    have none : ∀ k, a ≤ k → k < a + r.length → ¬ At x (mkS [13, 10]) x.length k := fun k hk hk2 hA => by
      obtain ⟨t', e⟩ := at_iff.mp hA
      have e2 : x.cps.toList.drop k = (x.cps.toList.drop a).drop (k - a) := by
        rw [List.drop_drop]; congr 1; omega
      rw [e, hx', List.drop_append_of_le_length (by omega)] at e2
      cases h9 : r.drop (k - a) with
      | nil => have := congrArg List.length h9; rw [List.length_drop, List.length_nil] at this; omega
      | cons y ys =>
        rw [h9] at e2
        have e3 : 13 = y := (List.cons.inj e2).1
        subst e3
        exact hr0 (List.mem_of_mem_drop (i := k - a) (h9 ▸ .head _))
    cases cuts with
    | nil =>
      have e : f = a := hc
      exact absurd here (hf _ (by omega))
    | cons c cs =>
      have hca : c = a + r.length := by
        rcases Nat.lt_trichotomy c (a + r.length) with h | h | h
        · exact absurd hc.2.1 (none c hc.1 h)
        · exact h
        · exact absurd here (hc.2.2.1 _ (by omega) h)
      subst hca
      have hd : x.cps.toList.drop (a + r.length + 2) = joinL [13, 10] (q :: t) := by
        rw [Nat.add_assoc, ← List.drop_drop, hx', ← List.drop_drop, List.drop_left]
        rfl
      show strSub x a (a + r.length) :: partsFrom x 2 (a + r.length + 2) cs = mkS r :: (q :: t).map mkS
      rw [parts_rows x (q :: t) (a + r.length + 2) cs f (by simp) (fun r' h' => hr r' (.tail _ h')) (by omega) hd hc.2.2.2 hf]
      congr 1
      apply Str.ext'
      apply Array.toList_inj.mp
      rw [strSub_toList, hx', show a + r.length - a = r.length by omega, List.take_left]

theorem split_rows {x : PySem.Str} {rows : List (List Nat)} (h0 : rows ≠ []) (hr : ∀ r ∈ rows, 13 ∉ r) (hx : x.cps.toList = joinL [13, 10] rows) : Txt.split x (mkS [13, 10]) = rows.map mkS := by
  obtain ⟨f, hG, hn⟩ := occ_tight x (mkS [13, 10]) (by rw [crlf_len]; decide)
  have key := parts_rows x rows 0 _ f h0 hr (Nat.zero_le _) (by rw [List.drop_zero]; exact hx) hG hn
  unfold Txt.split
  split
  · rename_i hc
    have hk : ¬ Builtin.Str.strKind x < Builtin.Str.strKind (mkS [13, 10]) := by
      have e : Builtin.Str.strKind (mkS [13, 10]) = 1 := by decide +kernel
      rw [e]
      unfold Builtin.Str.strKind
      split
      · decide
      · split <;> decide
    have hlt : x.length < 2 := by
      rw [crlf_len] at hc
      simpa [hk] using hc
    match rows, h0 with
    | [r], _ =>
      have : x = mkS r := by
        apply Str.ext'
        apply Array.toList_inj.mp
        exact hx
      rw [this]; rfl
    | r :: q :: t, _ =>
      have := congrArg List.length hx
      have hn : x.cps.toList.length = x.length := by simp [Str.length]
      have e : joinL [13, 10] (r :: q :: t) = r ++ (13 :: 10 :: joinL [13, 10] (q :: t)) := rfl
      rw [e, hn, List.length_append, List.length_cons, List.length_cons] at this
      omega
  · split
    · rename_i he
      rw [List.isEmpty_iff.mp he] at key
      rw [← key]
      show [x] = [strSub x 0 x.length]
      rw [sub_whole]
    · rw [partsBetween_eq]
      exact key

/-- no feed, no return -/
noncomputable def Plain (r : List Nat) : Prop := 10 ∉ r ∧ 13 ∉ r

theorem eols_plain {b : Bool} : ∀ {r : List Nat} (t : List Nat), Plain r → r ≠ [] → eols b (r ++ t) = r ++ eols false t
  | [], _, _, h => absurd rfl h
  | c :: r, t, h, _ => by
    have h1 : c ≠ 10 := fun q => h.1 (q ▸ .head _)
    have h2 : c ≠ 13 := fun q => h.2 (q ▸ .head _)
    rw [List.cons_append, eols, if_neg h1, if_neg h2]
    cases r with
    | nil => rfl
    | cons d r => rw [eols_plain t ⟨fun q => h.1 (.tail _ q), fun q => h.2 (.tail _ q)⟩ (by simp)]; rfl
theorem eols_plain' : ∀ {r : List Nat} (t : List Nat), Plain r → eols false (r ++ t) = r ++ eols false t
  | [], _, _ => rfl
  | c :: r, t, h => eols_plain t h (by simp)

/-- the three rows' ends -/
noncomputable def IsEnd (e : List Nat) : Prop := e = [10] ∨ e = [13] ∨ e = [13, 10]

theorem eols_join {e : List Nat} (he : IsEnd e) : ∀ (rows : List (List Nat)), (∀ r ∈ rows, Plain r) → eols false (joinL e rows) = joinL [13, 10] rows
  | [], _ => rfl
  | [r], h => by
    have := eols_plain' [] (h r (.head _))
    rw [List.append_nil] at this
    show eols false r = r
    rw [this]
    show r ++ [] = r
    rw [List.append_nil]
  | r :: q :: t, h => by
    have ih := eols_join he (q :: t) fun r' h' => h r' (.tail _ h')
    show eols false (r ++ (e ++ joinL e (q :: t))) = r ++ ([13, 10] ++ joinL [13, 10] (q :: t))
    rw [eols_plain' _ (h r (.head _)), ← ih]
    congr 1
    rcases he with rfl | rfl | rfl
    · rfl
    · show 13 :: 10 :: eols true (joinL [13] (q :: t)) = 13 :: 10 :: eols false (joinL [13] (q :: t))
      congr 2
      have hq := h q (.tail _ (.head _))
      cases q with
      | nil => cases t <;> rfl
      | cons c q =>
        have h1 : c ≠ 10 := fun z => hq.1 (z ▸ .head _)
        cases t <;> exact eols_flag h1
    · rfl

theorem dots_plain : ∀ {r : List Nat} (t : List Nat), Plain r → dots false (r ++ t) = r ++ (if r = [] then dots false t else dots false t)
  | [], _, _ => rfl
  | c :: r, t, h => by
    have h1 : c ≠ 10 := fun q => h.1 (q ▸ .head _)
    have ih := dots_plain (r := r) t ⟨fun q => h.1 (.tail _ q), fun q => h.2 (.tail _ q)⟩
    rw [List.cons_append, dots, if_neg (by simp), beq_eq_false_iff_ne.mpr h1, ih]
    simp

noncomputable def rowL (d : Nat) : List Nat := List.replicate d 46
theorem rowL_plain (d : Nat) : Plain (rowL d) := ⟨fun h => by have := List.eq_of_mem_replicate h; omega, fun h => by have := List.eq_of_mem_replicate h; omega⟩

theorem dots_join : ∀ (ds : List Nat), (∀ d ∈ ds, 1 ≤ d) → dots true (joinL [13, 10] (ds.map rowL)) = joinL [13, 10] (ds.map fun d => rowL (d + 1))
  | [], _ => rfl
  | [d], h => by
    obtain ⟨k, rfl⟩ : ∃ k, d = k + 1 := ⟨d - 1, by have := h d (.head _); omega⟩
    have := dots_plain [] (rowL_plain k)
    rw [List.append_nil] at this
    show dots true (rowL (k + 1)) = rowL (k + 1 + 1)
    show dots true (46 :: rowL k) = 46 :: 46 :: rowL k
    rw [dots, if_pos ⟨rfl, rfl⟩]
    show 46 :: 46 :: dots false (rowL k) = _
    rw [this]
    simp [dots]
  | d :: q :: t, h => by
    obtain ⟨k, rfl⟩ : ∃ k, d = k + 1 := ⟨d - 1, by have := h d (.head _); omega⟩
    have ih := dots_join (q :: t) fun d' h' => h d' (.tail _ h')
    show dots true (46 :: (rowL k ++ ([13, 10] ++ joinL [13, 10] ((q :: t).map rowL)))) = 46 :: 46 :: (rowL k ++ ([13, 10] ++ joinL [13, 10] ((q :: t).map fun d => rowL (d + 1))))
    rw [dots, if_pos ⟨rfl, rfl⟩, ← ih]
    show 46 :: 46 :: dots false (rowL k ++ _) = _
    rw [dots_plain _ (rowL_plain k)]
    simp [dots]
end Mine
end

section
open PySem PySem.W PySem.Calls PyProof.Rows
set_option Elab.async false
namespace Mine
set_option maxRecDepth 100000
set_option maxHeartbeats 4000000

/-- the end of an element's run -/
noncomputable def CEnd (F : Value → Value → Prop) (v : Value) (s : Shared) (y : Value) (s' : Shared) : Prop := F v y ∧ Keeps s s'

section
variable {M : Model} {A : Around} {E : Value → Shared → Prop} {s : Shared} {scope : Scope} {cl : List (Str × Addr)} {C : Addr} {env : Env} {h₀ : Heap} {m : Str → Option Value} {x : Str} {pos : Pos} {v : Value} {Q : Value → Shared → Prop}
theorem nameQ_L (F : Fr h₀ C s.heap m) (hv : m x = some v) (h : Q v s)
    (hk : scope.kind = .function) (hx : (compEnvC scope cl C env).kindOf x = some .local) (hd : (x == ("__debug__" : Str)) = false) :
    wpAny M A (eval (.Name x pos) (compEnvC scope cl C env)) Q E s := wpAny_Name (wpAny_loadName_local (env := compEnvC scope cl C env) hk hx F.ns hv h) hd
theorem nameQ_C {c : Addr} (hc : cl.lookup x = some c) (hv : s.heap.IsCell c (some v)) (h : Q v s)
    (hk : scope.kind = .function) (hx : (compEnvC scope cl C env).kindOf x = some .cell) (hd : (x == ("__debug__" : Str)) = false) :
    wpAny M A (eval (.Name x pos) (compEnvC scope cl C env)) Q E s := wpAny_Name (wpAny_loadName_cell (env := compEnvC scope cl C env) hk hx hc hv h) hd
theorem nameQ_K {w : World} {lo : List Str} {mean : ExcName → Option Value} {mg mb : Str → Option Value} (G : Gd w lo mean mg mb h₀) (F : Fr h₀ C s.heap m) (e : nsIn (hd.heap_39 w.params) mainGlobals x = some (some v)) (h : Q v s)
    (hg : env.globals = mainGlobals) (hk : scope.kind = .function) (hx : (compEnvC scope cl C env).kindOf x = some .globalImplicit) (hd : (x == ("__debug__" : Str)) = false) :
    wpAny M A (eval (.Name x pos) (compEnvC scope cl C env)) Q E s :=
  Name_function_global hk hx (loadGlobal_global (env := compEnvC scope cl C env) (show s.heap.Ns env.globals mg from hg ▸ G.T.g.keeps F.keep) (mg_of G.X G.T.g e) h) hd
theorem nameQ_B {w : World} {lo : List Str} {mean : ExcName → Option Value} {mg mb : Str → Option Value} (G : Gd w lo mean mg mb h₀) (F : Fr h₀ C s.heap m) (e : nsIn (hd.heap_39 w.params) mainGlobals x = some none) (hv : bootBuiltins x = some v) (hn : x ≠ "__name__") (h : Q v s)
    (hg : env.globals = mainGlobals) (hb : env.builtins = builtinsNs) (hk : scope.kind = .function) (hx : (compEnvC scope cl C env).kindOf x = some .globalImplicit) (hd : (x == ("__debug__" : Str)) = false) :
    wpAny M A (eval (.Name x pos) (compEnvC scope cl C env)) Q E s :=
  Name_function_global hk hx (loadGlobal_builtin (env := compEnvC scope cl C env) (show s.heap.Ns env.globals mg from hg ▸ G.T.g.keeps F.keep) (mg_none_of G.X G.T.g e) (show s.heap.Ns env.builtins mb from hb ▸ G.T.b.keeps F.keep) ((G.T.builtins x hn).trans hv) h) hd
end

section
variable {prog : Program} {w : World} {A : Around} {gens : Array GenState} {drawn : Drawn} {os : OsState} {tk : Nat} {E : Value → Shared → Prop}
  {g hp : Heap} {L : Addr} {m : Str → Option Value} {news : List (Addr × Obj)} {env : Env} {elt iter : Expr} {x : Str} {px : Pos} {scope : Scope} {cl : List (Str × Addr)} {pos : Pos} {Q : Value → Shared → Prop}

/-- a comprehension over a list -/
theorem lc_list0 {l : Addr} {items : Array Value} (Fv : Value → Value → Prop) (hh : A.handled = none) (F : Fr g L hp m) (N : News g L hp news) (hl : hp.IsList l items) (hsz : items.size ≤ 2 ^ 20)
    (hclos : closureFor scope env = pure cl) (hcell : ∀ y ∈ scope.names, y.2 ≠ .cell) (hkind : scope.kind = .function)
    (hnames : ∀ y ∈ scope.names, y.2 = .local → scope.names.lookup y.1 = some .local) (hx : scope.names.lookup x = some .local)
    (hit : wpAny (model prog w) A (eval iter env) (fun xv s₁ => xv = .ref l ∧ ∃ tk', s₁ = ⟨hp, gens, drawn, tk', os⟩) E ⟨hp, gens, drawn, tk, os⟩)
    (helt : ∀ (C : Addr) (i : Nat) (v : Value) (s₃ : Shared) (m₃ : Str → Option Value), items[i]? = some v → Fr hp C s₃.heap m₃ → m₃ x = some v →
      wpAny (model prog w) A (eval elt (compEnvC scope cl C env)) (CEnd Fv v s₃) (fun _ _ => False) s₃)
    (hQ : ∀ D h' tk' ys n, Fr g L h' m → News g L h' ((D, listOf ys n) :: news) → (∀ p ∈ news, p.1 ≠ D) → Paired Fv items.toList ys.toList → (∀ b o, hp.get? b = some o → h'.get? b = some o) → hp.get? D = none → Q (.ref D) ⟨h', gens, drawn, tk', os⟩)
    (hs : ∀ x, foldedSetIterable iter env x = pure x) :
    wpAny (model prog w) A (eval (.ListComp elt [⟨.Name x px, iter, [], 0⟩] scope pos) env) Q E ⟨hp, gens, drawn, tk, os⟩ := by
  refine wpAny_ListComp_free (fun _ => true) Fv hclos hcell hkind hnames hx (wpAny_mono hit (fun xv s₁ h₁ => ?_) fun _ _ e => e) hs
  obtain ⟨rfl, tk1, rfl⟩ := h₁
  refine wpAny_pyIter_list hl ?_
  have hlt : l < hp.objs.size := let ⟨o, ho, _⟩ := hl; Heap.lt_size ho
  have hII : (hp.push { cls := .type "list_iterator", data := .fields #[.ref l, .int 0 0] }).IsListIter hp.objs.size l 0 := ⟨_, Heap.get?_push_size _ rfl, rfl, rfl⟩
  refine ⟨hp.objs.size, _, _, _, _, _, rfl, Walks.list hh hp.objs.size l (Nat.ne_of_lt hlt) items, by rw [sizeLine_eq]; omega, ⟨hII, hl.push _⟩, ?_, ⟨?_, ?_⟩, ?_⟩
  · intro b hb
    simp only [List.mem_cons, List.not_mem_nil, or_false] at hb
    show b < (hp.push _).objs.size
    rw [Heap.size_push]
    rcases hb with rfl | rfl
    · exact Nat.lt_succ_self _
    · exact Nat.lt_succ_of_lt hlt
  · intro C i v s₃ m₃ E' _ _ _ _ _ _
    exact wpAny_pure ⟨rfl, s₃.heap, s₃.toks, rfl, fun _ _ e => e⟩
  · intro C i v s₃ m₃ E' hC hv _ hn hm hk _
    have F3 : Fr hp C s₃.heap m₃ := ⟨hn, fun b o e => hk b o (by simp only [List.mem_cons, List.not_mem_nil, or_false]; exact Nat.ne_of_lt (Heap.lt_size e)) (Heap.get?_push_of_some _ e), Nat.le_of_succ_le (show hp.objs.size + 1 ≤ C by rw [Heap.size_push] at hC; exact hC)⟩
    exact wpAny_mono (helt C i v s₃ m₃ hv F3 hm) (fun y s₄ h₄ => h₄) fun _ _ e => e.elim
  · intro D h' tk' ys vs hD _ hpl hlen hP hF hk
    have hk' : ∀ b o, hp.get? b = some o → h'.get? b = some o := fun b o e => hk b o (by simp only [List.mem_cons, List.not_mem_nil, or_false]; exact Nat.ne_of_lt (Heap.lt_size e)) (Heap.get?_push_of_some _ e)
    obtain ⟨n, hn⟩ := hpl
    have hDn : ∀ b o, hp.get? b = some o → b ≠ D := fun b o e q => by
      have e2 : (hp.push { cls := .type "list_iterator", data := .fields #[.ref l, .int 0 0] }).get? b = some o := Heap.get?_push_of_some _ e
      rw [q] at e2
      rw [hD] at e2
      cases e2
    have e9 : vs = items.toList := by
      apply List.ext_getElem?
      intro i
      rcases Nat.lt_or_ge i vs.length with h | h
      · rw [List.getElem?_eq_getElem h]
        have := hP i _ (List.getElem?_eq_getElem h)
        rw [Array.getElem?_toList]
        exact this.symm
      · rw [List.getElem?_eq_none h, List.getElem?_eq_none (by rw [Array.length_toList]; omega)]
    subst e9
    rw [List.filter_eq_self.mpr (fun _ _ => rfl)] at hF
    have hD0 : hp.get? D = none := by
      cases e : hp.get? D with
      | none => rfl
      | some o => exact absurd rfl (hDn D o e)
    refine hQ D h' tk' ys n (Fr.keepsAll F hk') (fun p hp' => ?_) (fun p hp' => hDn p.1 p.2 (N p hp').1) hF hk' hD0
    rcases List.mem_cons.mp hp' with rfl | hp'
    · obtain ⟨oL, _, _, hL, _⟩ := F.ns
      refine ⟨hn, fun q => hDn L oL hL q.symm, ?_⟩
      cases q : g.get? D with
      | none => rfl
      | some o => exact absurd rfl (hDn D o (F.keep _ _ q))
    · exact ⟨hk' _ _ (N p hp').1, (N p hp').2⟩
/-- a comprehension over a list -/
theorem lc_list {l : Addr} {items : Array Value} (Fv : Value → Value → Prop) (hh : A.handled = none) (F : Fr g L hp m) (N : News g L hp news) (hl : hp.IsList l items) (hsz : items.size ≤ 2 ^ 20)
    (hclos : closureFor scope env = pure cl) (hcell : ∀ y ∈ scope.names, y.2 ≠ .cell) (hkind : scope.kind = .function)
    (hnames : ∀ y ∈ scope.names, y.2 = .local → scope.names.lookup y.1 = some .local) (hx : scope.names.lookup x = some .local)
    (hit : wpAny (model prog w) A (eval iter env) (fun xv s₁ => xv = .ref l ∧ ∃ tk', s₁ = ⟨hp, gens, drawn, tk', os⟩) E ⟨hp, gens, drawn, tk, os⟩)
    (helt : ∀ (C : Addr) (i : Nat) (v : Value) (s₃ : Shared) (m₃ : Str → Option Value), items[i]? = some v → Fr hp C s₃.heap m₃ → m₃ x = some v →
      wpAny (model prog w) A (eval elt (compEnvC scope cl C env)) (CEnd Fv v s₃) (fun _ _ => False) s₃)
    (hQ : ∀ D h' tk' ys n, Fr g L h' m → News g L h' ((D, listOf ys n) :: news) → (∀ p ∈ news, p.1 ≠ D) → Paired Fv items.toList ys.toList → Q (.ref D) ⟨h', gens, drawn, tk', os⟩)
    (hs : ∀ x, foldedSetIterable iter env x = pure x) :
    wpAny (model prog w) A (eval (.ListComp elt [⟨.Name x px, iter, [], 0⟩] scope pos) env) Q E ⟨hp, gens, drawn, tk, os⟩ :=
  lc_list0 Fv hh F N hl hsz hclos hcell hkind hnames hx hit helt (fun D h' tk' ys n a b c d _ _ => hQ D h' tk' ys n a b c d) hs
end
end Mine
end

section
open PySem PySem.W PySem.Calls PyProof.Rows
set_option Elab.async false
namespace Mine
set_option maxRecDepth 100000
set_option maxHeartbeats 4000000

/-- a row of so many dots, as a str -/
noncomputable def row (d : Int) : PySem.Str := mkS (rowL d.toNat)

theorem txt_mul_dot {d : Int} (h : 0 ≤ d) : Txt.mul (Str.ofString ".") d = row d := by
  have e1 : (Str.ofString ".") = mkS [46] := by decide +kernel
  rw [e1]
  unfold Txt.mul
  by_cases h1 : d < 1
  · rw [if_pos h1]
    obtain rfl : d = 0 := by omega
    rfl
  · rw [if_neg h1]
    split
    · rename_i h2
      have h3 : d = 1 := by simpa [Str.length] using h2
      subst h3; rfl
    · unfold row rowL mkS
      congr 1
      have key : ∀ (n : Nat) (a : Array Nat), (List.replicate n (#[46] : Array Nat)).foldl (· ++ ·) a = a ++ (List.replicate n 46).toArray := by
        intro n
        induction n with
        | zero => intro a; simp
        | succ n ih =>
          intro a
          rw [List.replicate_succ, List.foldl_cons, ih, List.replicate_succ, Array.append_assoc]
          congr 1
          simp
      have := key d.toNat #[]
      simpa using this

/-- this ledger holds the list of texts -/
noncomputable def TextsIn (l : List (Addr × Obj)) (v : Value) (texts : List PySem.Str) : Prop := ∃ b us n, v = .ref b ∧ (b, listOf (strValues us).toArray n) ∈ l ∧ us.map (·.1) = texts
theorem TextsIn.more {l l' : List (Addr × Obj)} {v : Value} {texts : List PySem.Str} (x : TextsIn l v texts) (h : ∀ p ∈ l, p ∈ l') : TextsIn l' v texts :=
  let ⟨b, us, n, e, m, r⟩ := x; ⟨b, us, n, e, h _ m, r⟩

/-- made by the call -/
noncomputable def Made (s s' : Shared) (l : List (Addr × Obj)) : Prop := ∀ p ∈ l, s'.heap.get? p.1 = some p.2 ∧ s.heap.get? p.1 = none

theorem Fr.iter {g h h1 : Heap} {L I : Addr} {o : Obj} {m : Str → Option Value} {news : List (Addr × Obj)} (F : Fr g L h m) (N : News g L h ((I, o) :: news)) (hk : ∀ b o, b ≠ I → h.get? b = some o → h1.get? b = some o) : Fr g L h1 m := by
  have hI := N (I, o) (.head _)
  refine ⟨F.ns.at' fun o' e => hk _ _ (Ne.symm hI.2.1) e, fun b o' e => hk b o' (fun q => ?_) (F.keep b o' e), F.above⟩
  rw [q, hI.2.2] at e; cases e
theorem News.iter {g h h1 : Heap} {L I : Addr} {o o1 : Obj} {news : List (Addr × Obj)} (N : News g L h ((I, o) :: news)) (hne : ∀ p ∈ news, p.1 ≠ I) (hk : ∀ b o, b ≠ I → h.get? b = some o → h1.get? b = some o) (h1I : h1.get? I = some o1) :
    News g L h1 ((I, o1) :: news) := fun p hp => by
  rcases List.mem_cons.mp hp with rfl | hp
  · exact ⟨h1I, (N (I, o) (.head _)).2⟩
  · exact ⟨hk _ _ (hne p hp) (N p (.tail _ hp)).1, (N p (.tail _ hp)).2⟩
theorem News.drop {g h : Heap} {L : Addr} {p : Addr × Obj} {news : List (Addr × Obj)} (N : News g L h (p :: news)) : News g L h news := fun q hq => N q (.tail _ hq)

/-- the end of a for's turn -/
noncomputable def FEnd (J : Nat → (Str → Option Value) → List (Addr × Obj) → Prop) (g : Heap) (L I : Addr) (o : Obj) (gens : Array GenState) (drawn : Drawn) (os : OsState) (k : Nat) (Q : Flow → Shared → Prop) (f : Flow) (s : Shared) : Prop := match f with
  | .next | .cont => ∃ m' news' h' tk', s = ⟨h', gens, drawn, tk', os⟩ ∧ J (k + 1) m' news' ∧ Fr g L h' m' ∧ News g L h' ((I, o) :: news') ∧ (∀ p ∈ news', p.1 ≠ I)
  | .brk => Q .next s
  | .ret v => Q (.ret v) s

section
variable {prog : Program} {w : World} {A : Around} {gens : Array GenState} {drawn : Drawn} {os : OsState} {tk : Nat} {E : Value → Shared → Prop}
  {g hp : Heap} {L : Addr} {m : Str → Option Value} {news : List (Addr × Obj)} {env : Env} {x : Str} {px : Pos} {body : List Stmt} {Q : Flow → Shared → Prop}

/-- for x in range(n) -/
theorem for_range {n : Int} {tn : Tok} (hh : A.handled = none) (F : Fr g L hp m) (N : News g L hp news) (hlo : -(2 ^ 62) ≤ n) (hhi : n < 2 ^ 62) (J : Nat → (Str → Option Value) → List (Addr × Obj) → Prop)
    (start : J 0 m news)
    (turn : ∀ (k : Nat) m' news' h' tk' I o t, (k : Int) < n → J k m' news' → Fr g L h' m' → News g L h' ((I, o) :: news') → (∀ p ∈ news', p.1 ≠ I) →
      wpAny (model prog w) A (assign (.Name x px) env (.int (k : Int) t)) (fun _ s₂ => wpAny (model prog w) A (execs body env) (FEnd J g L I o gens drawn os k Q) (fun _ _ => False) s₂) (fun _ _ => False) ⟨h', gens, drawn, tk', os⟩)
    (done : ∀ m' news' h' tk', J n.toNat m' news' → Fr g L h' m' → News g L h' news' → Q .next ⟨h', gens, drawn, tk', os⟩) :
    wpAny (model prog w) A (call (.type "range") [.int n tn]) (fun v s₁ => wpAny (model prog w) A (pyIter v) (fun it s₂ => codeAny (model prog w) (A.mark none) (.forLoop (.Name x px) it body [] env)
      (fun r s' => match r with | .ok f => Q f s' | .error e => cameBackBy (model prog w) A env (fun _ _ => False) e s') s₂) (fun _ _ => False) s₁) (fun _ _ => False) ⟨hp, gens, drawn, tk, os⟩ := by
  refine call_range_1 ?_
  refine wpAny_pyIter_range (IsRange.new ..) (small_one (by decide) (by decide) hlo hhi) ?_
  dsimp only
  generalize hH2 : (hp.push { cls := .type "range", data := .fields #[.int 0 tk, .int n tn, .int 1 (tk + 1)] }) = H2
  have hk0 : ∀ b o, hp.get? b = some o → H2.get? b = some o := fun b o e => hH2 ▸ Heap.get?_push_of_some _ e
  have F2 := Fr.keepsAll F hk0
  have N2 := News.keepsAll N hk0
  have hsz : Builtin.Range.rangeSize 0 n 1 = (n.toNat : Int) := by rw [rangeSize_one]; split <;> omega
  rw [hsz]
  have FI := F2.push { cls := .type "range_iterator", data := .fields #[rawInt 0, rawInt (n.toNat : Int), rawInt 1] }
  have NI := N2.push F2 { cls := .type "range_iterator", data := .fields #[rawInt 0, rawInt (n.toNat : Int), rawInt 1] }
  have hneI : ∀ p ∈ news, p.1 ≠ H2.objs.size := fun p hp' => Nat.ne_of_lt (Heap.lt_size (N2 p hp').1)
  refine codeAny_forLoop (fun j s' => ∃ (k : Nat) (m' : Str → Option Value) (news' : List (Addr × Obj)) (h' : Heap) (tk' : Nat), s' = ⟨h', gens, drawn, tk', os⟩ ∧ j = n.toNat - k ∧ k ≤ n.toNat ∧ J k m' news' ∧ Fr g L h' m' ∧
      News g L h' ((H2.objs.size, { cls := .type "range_iterator", dict := none, data := .fields #[rawInt (0 + (k : Nat) * 1), rawInt ((n.toNat : Int) - (k : Nat)), rawInt 1], slots := #[] }) :: news') ∧ (∀ p ∈ news', p.1 ≠ H2.objs.size)) ?_ n.toNat
      ⟨0, m, news, _, _, rfl, rfl, Nat.zero_le _, start, FI, NI, hneI⟩
  rintro j s' hpk1
  refine gen_goal fun GX hGX => ?_
  obtain ⟨k, m', news', h', tk', rfl, rfl, hk, hJ, F', N', hne⟩ := hpk1
  refine hGX ?_
  clear hGX
  have hit : IsRangeIter h' H2.objs.size (0 + (k : Nat) * 1) ((n.toNat : Int) - (k : Nat)) 1 := (N' _ (.head _)).1
  by_cases hlt : k < n.toNat
  · refine wpAny_pyNext_range_item hit (it_d (by assumption)) fun h1 hit1 hs1 => ?_
    have hk1 : ∀ b o, b ≠ H2.objs.size → h'.get? b = some o → h1.get? b = some o := fun b o hb e => (hs1.2 b hb).trans e
    have F1 := Fr.iter F' N' hk1
    have N1 := News.iter N' hne hk1 hit1
    have t := turn k m' news' h1 (tk' + 1) H2.objs.size _ tk' (by omega) hJ F1 N1 hne
    rw [it_c k]
    refine wpAny_mono t (fun _ s₂ h₂ => wpAny_mono h₂ (fun f s₃ h₃ => ?_) fun _ _ e => e.elim) fun _ _ e => e.elim
    have nx : (∃ m' news' h' tk', s₃ = ⟨h', gens, drawn, tk', os⟩ ∧ J (k + 1) m' news' ∧ Fr g L h' m' ∧ News g L h' ((H2.objs.size, { cls := .type "range_iterator", dict := none, data := .fields #[rawInt (0 + (k : Nat) * 1 + 1), rawInt ((n.toNat : Int) - (k : Nat) - 1), rawInt 1], slots := #[] }) :: news') ∧ (∀ p ∈ news', p.1 ≠ H2.objs.size)) →
        ∃ m, m < n.toNat - k ∧ ∃ (k : Nat) (m' : Str → Option Value) (news' : List (Addr × Obj)) (h' : Heap) (tk' : Nat), s₃ = ⟨h', gens, drawn, tk', os⟩ ∧ m = n.toNat - k ∧ k ≤ n.toNat ∧ J k m' news' ∧ Fr g L h' m' ∧
          News g L h' ((H2.objs.size, { cls := .type "range_iterator", dict := none, data := .fields #[rawInt (0 + (k : Nat) * 1), rawInt ((n.toNat : Int) - (k : Nat)), rawInt 1], slots := #[] }) :: news') ∧ (∀ p ∈ news', p.1 ≠ H2.objs.size) := by
      rintro hpk2
      refine gen_goal fun GX hGX => ?_
      obtain ⟨m2, news2, h2, tk2, rfl, hJ2, F3, N3, hne2⟩ := hpk2
      refine hGX ?_
      clear hGX
      refine ⟨n.toNat - (k + 1), sub_step (by assumption), k + 1, m2, news2, h2, tk2, rfl, rfl, hlt, hJ2, F3, ?_, hne2⟩
      have e1 := it_a k
      have e2 := it_b n.toNat k
      rw [e1, e2]
      exact N3
    cases f with
    | next => exact nx h₃
    | cont => exact nx h₃
    | brk => exact h₃
    | ret v => exact h₃
  · refine wpAny_pyNext_range_end (A := A.mark none) hh hit (by omega) fun h1 he1 => ?_
    have e : k = n.toNat := by omega
    subst e
    have hk1 : ∀ b o, b ≠ H2.objs.size → h'.get? b = some o → h1.get? b = some o := fun b o hb e => he1 b o hb e
    refine wpAny_execs_nil (done m' news' h1 _ hJ (Fr.iter F' N' hk1) fun p hp' => ?_)
    exact ⟨hk1 _ _ (hne p hp') (N' p (.tail _ hp')).1, (N' p (.tail _ hp')).2⟩

/-- str.split at the mail's ends -/
theorem split_at {xs : Str} {t u : Tok} {rows : List (List Nat)} {Qv : Value → Shared → Prop} (F : Fr g L hp m) (N : News g L hp news) (h0 : rows ≠ []) (hr : ∀ r ∈ rows, 13 ∉ r) (hx : xs.cps.toList = joinL [13, 10] rows) (hsz : xs.cps.size ≤ 2 ^ 20)
    (hQ : ∀ D l h' k, l.map (·.1) = rows.map mkS → Fr g L h' m → News g L h' ((D, listOf (strValues l).toArray 0) :: news) → (∀ p ∈ news, p.1 < D) → Qv (.ref D) ⟨h', gens, drawn, k, os⟩) :
    wpAny (model prog w) A (call (.builtin "str.split") [.str xs t, .str (Str.ofString "\x0d\n") u]) Qv E ⟨hp, gens, drawn, tk, os⟩ := by
  have e : Str.ofString "\x0d\n" = mkS [13, 10] := by decide +kernel
  rw [e]
  refine splitN1 (s := ⟨hp, gens, drawn, tk, os⟩) F N (by decide +kernel) (fun l h' k hl F' N' => ?_) (by show xs.cps.size + 2 ≤ sizeLine; rw [sizeLine_eq]; omega)
  exact hQ _ l h' k (hl.trans (split_rows h0 hr hx)) F' N' fun p hp' => Heap.lt_size (N p hp').1

/-- str.join of a list on the ledger -/
theorem join_at {e : Str} {te : Tok} {D : Addr} {us : List (Str × Tok)} {n : Nat} {texts : List Str} {Qv : Value → Shared → Prop} (F : Fr g L hp m) (N : News g L hp news) (hm : (D, listOf (strValues us).toArray n) ∈ news) (ht : us.map (·.1) = texts)
    (hok : (texts.map (·.length)).sum + texts.length * e.length ≤ 2 ^ 24) (hQ : ∀ t' k, Qv (.str (Str.join e texts) t') ⟨hp, gens, drawn, k, os⟩) :
    wpAny (model prog w) A (call (.builtin "str.join") [.str e te, .ref D]) Qv E ⟨hp, gens, drawn, tk, os⟩ := by
  refine SC.join ⟨_, (N _ hm).1, rfl, n, rfl⟩ ht ?_ fun t' k => ?_
  · unfold JoinOk
    rw [Bool.not_eq_true', StrLaws.joinTotal]
    show decide (_ > sizeLine) = false
    rw [decide_eq_false_iff_not, sizeLine_eq]
    omega
  · have e2 : Txt.join e texts = Str.join e texts := StrLaws.glued_eq_join _ _
    rw [e2]
    exact hQ t' k
end
end Mine
end

section
open PySem PySem.W PySem.Calls PyProof.Rows
open Mine
local macro_rules | `(tactic| walk_at "eval Name") => `(tactic| (k_here; (with_reducible show wpAny _ _ (eval _ (compEnvC _ _ _ _)) _ _ _); k_dflt (refine' nameQ_L ?k1 ?k2 ?_ ?k3 ?k4 ?k5; (case k1 => k_asm); (case k2 => first | assumption | exact rfl); (case k3 => exact rfl); (case k4 => exact rfl); (case k5 => decide); k_whole)))

section
open PySem PySem.W PySem.Calls PyProof.Rows
set_option Elab.async false
namespace Mine
set_option maxRecDepth 100000
set_option maxHeartbeats 8000000

theorem fill4 (h : PySem.Challenge.rw_ta0035_01.about = [] → hd.heap_39 = hd.heap_39) : (PySem.Challenge.rw_ta0035_01.about = [] → hd.heap_39 = hd.heap_39) := by
  k_fill
  exact h

theorem ints_at {vs : List Value} {ns : List Int} (h : IntsAre vs ns) {i : Nat} {v : Value} (e : vs[i]? = some v) : ∃ d t, v = .int d t ∧ d ∈ ns := by
  induction h generalizing i with
  | nil => cases e
  | cons n t hr ih =>
    cases i with
    | zero => cases e; exact ⟨n, t, rfl, .head _⟩
    | succ i => obtain ⟨d, u, e1, e2⟩ := ih (i := i) (by simpa using e); exact ⟨d, u, e1, .tail _ e2⟩

theorem rows_paired {vs : List Value} {ns : List Int} (h : IntsAre vs ns) {f : Int → PySem.Str} : ∀ {ys : List Value}, Paired (fun v y => ∃ d t t', v = .int d t ∧ y = .str (f d) t') vs ys → ∃ us : List (Str × Tok), ys = strValues us ∧ us.map (·.1) = ns.map f := by
  induction h with
  | nil => intro ys hp; cases hp; exact ⟨[], rfl, rfl⟩
  | cons n t hr ih =>
    intro ys hp
    cases hp with
    | cons h1 h2 =>
      obtain ⟨d, u, u', e1, rfl⟩ := h1
      cases e1
      obtain ⟨us, rfl, e⟩ := ih h2
      exact ⟨(f n, u') :: us, rfl, by rw [List.map_cons, List.map_cons, e]⟩

/-- the rows, t dots longer -/
noncomputable def rowsAt (ns : List Int) (t : Nat) : List Str := ns.map fun d => row (d + t)

theorem rowsAt_eq (ns : List Int) (t : Nat) (h : ∀ n ∈ ns, 0 ≤ n) : rowsAt ns t = ((ns.map fun d => d.toNat + t).map rowL).map mkS := by
  unfold rowsAt row
  rw [List.map_map, List.map_map]
  apply List.map_congr_left
  intro d hd
  have := h d hd
  show mkS (rowL (d + t).toNat) = mkS (rowL (d.toNat + t))
  rw [Int.toNat_add this (Int.natCast_nonneg t), Int.toNat_natCast]

theorem join_len (sep : List Nat) (B : Nat) : ∀ rows : List (List Nat), (∀ r ∈ rows, r.length ≤ B) → (joinL sep rows).length ≤ rows.length * (B + sep.length)
  | [], _ => Nat.zero_le _
  | [r], h => by
    have := h r (.head _)
    show r.length ≤ (0 + 1) * (B + sep.length)
    omega
  | r :: q :: t, h => by
    have ih := join_len sep B (q :: t) fun r' h' => h r' (.tail _ h')
    have := h r (.head _)
    show (r ++ (sep ++ joinL sep (q :: t))).length ≤ ((q :: t).length + 1) * (B + sep.length)
    rw [List.length_append, List.length_append, Nat.succ_mul]
    omega

/-- the ledger of the hands -/
noncomputable def HandsIn (l : List (Addr × Obj)) (items : Array Value) (ns : List Int) : Prop := ∀ t (h : t < items.size), TextsIn l items[t] (rowsAt ns t)

theorem HandsIn.push {l l' : List (Addr × Obj)} {items : Array Value} {ns : List Int} {v : Value} (h : HandsIn l items ns) (hl : ∀ p ∈ l, p ∈ l') (hv : TextsIn l' v (rowsAt ns items.size)) : HandsIn l' (items.push v) ns := fun t ht => by
  rw [Array.getElem_push]
  split
  · rename_i h1; exact (h t h1).more hl
  · have : t = items.size := by rw [Array.size_push] at ht; omega
    subst this; exact hv

section
variable {w : World} {A : Around} {s : Shared} {lo : List Str} {mean : ExcName → Option Value} {mg mb : Str → Option Value}

theorem hands_ok (G : Gd w lo mean mg mb s.heap) (hA : Amb A 20) {l : Addr} {vs : List Value} {ns : List Int} (hl : s.heap.IsList l vs.toArray) (hi : IntsAre vs ns) (hn : ns.length ≤ 64) (hn0 : ns ≠ []) {e : Str} {te : Tok} (he : IsEnd e.cps.toList) {k : Int} {tk0 : Tok} (hk0 : 0 ≤ k) (hk1 : k ≤ 40)
    (hb : ∀ n ∈ ns, 1 ≤ n ∧ n ≤ 40)
    {Q : Value → Shared → Prop} {E : Value → Shared → Prop} (hQ : ∀ a items n rest s', Keeps s s' → Made s s' ((a, listOf items n) :: rest) → items.size = k.toNat + 1 → HandsIn rest items ns → Q (.ref a) s') :
    wpAny (model prog0 w) A (call (.ref 132) [.ref l, .str e te, .int k tk0]) Q E s := by
  refine wpAny_call ?_
  have KX := G.X
  have hb0 : ∀ n ∈ ns, 0 ≤ n := fun n h => by have := hb n h; omega
  have hmail : ∀ (t : Nat) (x : Str) (sep : List Nat), t ≤ 40 → sep.length ≤ 2 → x.cps.toList = joinL sep ((ns.map fun d => d.toNat + t).map rowL) → x.cps.size ≤ 2 ^ 18 := by
    intro t x sep ht hs hx
    have h1 := join_len sep 80 ((ns.map fun d => d.toNat + t).map rowL) fun r hr => by
      obtain ⟨d, hd, rfl⟩ := List.mem_map.mp hr
      obtain ⟨d', hd', rfl⟩ := List.mem_map.mp hd
      have := hb d' hd'
      unfold rowL
      rw [List.length_replicate]; omega
    rw [← hx, Array.length_toList (xs := x.cps), List.length_map, List.length_map] at h1
    have h2 : ns.length * (80 + sep.length) ≤ 64 * 82 := Nat.mul_le_mul hn (by omega)
    omega
  have hplain : ∀ (t : Nat), ∀ r ∈ (ns.map fun d => d.toNat + t).map rowL, Plain r := fun t r hr => by
    obtain ⟨d, _, rfl⟩ := List.mem_map.mp hr
    exact rowL_plain d
  have hne : ∀ (t : Nat), (ns.map fun d => d.toNat + t).map rowL ≠ [] := fun t h => hn0 (List.map_eq_nil_iff.mp (List.map_eq_nil_iff.mp h))
  refine' enter (k := 19) (binds := [(Str.ofString "places", .ref l), (Str.ofString "end", .str e te), (Str.ofString "times", .int k tk0)]) G hA ?k6 ?k7 ?k9 ?kB ?c2 ?c3 ?c4 ?c5 ?_
  (case k6 => k_is); (case k7 => k_is);  (case k9 => exact BindsTo.of_eq rfl); (case c5 => decide); (case kB => exact locs rfl); (case c2 => exact rfl); (case c3 => exact rfl); (case c4 => exact rfl)
  have T := G.T
  obtain ⟨hp, gens, drawn, toks, os⟩ := s
  dsimp only at *
  intro L h₁ tk F N hA'
  w_top on
  k_steps
  refine Stop.out ?_
  refine lc_list (fun v y => ∃ d t t', v = .int d t ∧ y = .str (row d) t') hA'.hh F N (IsList.keepsAll hl F.keep) ?_ rfl (by decide) rfl (by decide) rfl ?_ ?_ ?_ (fun _ => rfl)
  · have := IntsAre.length hi
    rw [List.size_toArray, this]; omega
  · refine nameX_L F rfl ⟨rfl, _, rfl⟩
  · intro C i v s₃ m₃ hv F3 hm
    have : ∃ d t, v = .int d t ∧ 0 ≤ d ∧ d ≤ 40 := by
      obtain ⟨d, t, e1, e2⟩ := ints_at hi (by simpa using hv)
      exact ⟨d, t, e1, hb0 d e2, (hb d e2).2⟩
    obtain ⟨d, t, rfl, hd0, hd1⟩ := this
    obtain ⟨h3, gens3, drawn3, toks3, os3⟩ := s₃
    dsimp only at *
    have N3 : News h₁ C h3 [] := News.nil
    k_steps
    refine ⟨⟨d, t, _, rfl, by rw [txt_mul_dot hd0]⟩, h3, _, rfl, fun _ _ e => e⟩
  · intro D h' tk' ys n F N hne' hpd
    obtain ⟨us, e1, e2⟩ := rows_paired hi (by simpa using hpd)
    have e3 : ys = (strValues us).toArray := by rw [← e1]
    subst e3
    have hel : e.length ≤ 2 := by
      have : e.cps.toList.length = e.length := Array.length_toList (xs := e.cps)
      rw [← this]
      rcases he with h | h | h <;> rw [h] <;> decide
    have hjl : ((ns.map row).map (·.length)).sum + (ns.map row).length * e.length ≤ 2 ^ 24 := by
      have h1 : ∀ (l : List Int), (∀ n ∈ l, n ≤ 40) → ((l.map row).map (·.length)).sum ≤ l.length * 40 := by
        intro l
        induction l with
        | nil => intro _; exact Nat.zero_le _
        | cons a r ih =>
          intro h
          have h2 := ih fun n hn => h n (.tail _ hn)
          have h3 := h a (.head _)
          have h4 : (row a).length = a.toNat := by
            show (rowL a.toNat).toArray.size = _
            rw [List.size_toArray]; exact List.length_replicate
          simp only [List.map_cons, List.sum_cons, List.length_cons, Nat.succ_mul] at h2 ⊢
          omega
      have h5 := h1 ns fun n hn => (hb n hn).2
      rw [List.length_map]
      have h6 : ns.length * e.length ≤ 64 * 2 := Nat.mul_le_mul hn hel
      omega
    k_steps
    (with_reducible rename Fr _ _ _ _ => F); (with_reducible rename News _ _ _ _ => N)
    refine Stop.out ?_
    refine join_at F N (.head _) e2 hjl ?_
    intro t' k'
    have hr0 : (Str.join e (ns.map row)).cps.toList = joinL e.cps.toList ((ns.map fun d => d.toNat + 0).map rowL) := by
      have h1 : ns.map row = ((ns.map fun d => d.toNat + 0).map rowL).map mkS := by
        rw [List.map_map, List.map_map]; rfl
      rw [h1, join_cps]
    generalize Str.join e (ns.map row) = x0 at hr0
    k_steps
    (with_reducible rename Fr _ _ _ _ => F); (with_reducible rename News _ _ _ _ => N)
    refine Stop.out ?_
    refine fix_at G (hA'.le (by decide)) F N (hmail 0 x0 _ (by decide) hel hr0) ?_
    intro t2 h2 tk2 F N
    k_steps
    (with_reducible rename Fr _ _ _ _ => F); (with_reducible rename News _ _ _ _ => N)
    refine Stop.out ?_
    refine split_at (rows := (ns.map fun d => d.toNat + 0).map rowL) F N (hne 0) (fun r hr => (hplain 0 r hr).2) ?_ ?_ ?_
    · show eols false x0.cps.toList = _
      rw [hr0, eols_join he _ (hplain 0)]
    · have h1 := hmail 0 x0 _ (by decide) hel hr0
      have h2 := eols_len false x0.cps.toList
      rw [Array.length_toList (xs := x0.cps)] at h2
      show (eols false x0.cps.toList).toArray.size ≤ _
      rw [List.size_toArray]; omega
    intro D1 u1 h3 tk3 hu1 F N l1
    have l2 : D < D1 := l1 _ (.head _)
    have hrow0 : rowsAt ns 0 = ((ns.map fun d => d.toNat + 0).map rowL).map mkS := rowsAt_eq ns 0 hb0
    have l3 : D ≠ L := (N _ (.tail _ (.head _))).2.1
    clear l1
    k_steps
    (with_reducible rename Fr _ _ _ _ => F); (with_reducible rename News _ _ _ _ => N)
    refine Stop.out ?_
    refine wpAny_For ?_
    k_steps
    (with_reducible rename Fr _ _ _ _ => F); (with_reducible rename News _ _ _ _ => N)
    refine Stop.out ?_
    refine for_range hA'.hh F N (by omega) (by omega) (fun j m' news' => ∃ (x : Str) (tx : Tok) (P : Addr) (items : Array Value) (n : Nat) (rest : List (Addr × Obj)) (sep : List Nat), m' (Str.ofString "mail") = some (.str x tx) ∧ m' (Str.ofString "hands") = some (.ref P) ∧
      news' = (P, listOf items n) :: rest ∧ (∀ p ∈ rest, p.1 ≠ P) ∧ IsEnd sep ∧ x.cps.toList = joinL sep ((ns.map fun d => d.toNat + j).map rowL) ∧ items.size = j + 1 ∧ HandsIn rest items ns) ?_ ?_ ?_
    · refine ⟨x0, t', _, _, _, _, e.cps.toList, rfl, rfl, rfl, ?_, he, hr0, rfl, ?_⟩
      · (rename D1 < _ ∧ D < _ => lq)
        intro p hp'
        rcases List.mem_cons.mp hp' with rfl | hp'
        · exact Nat.ne_of_lt lq.1
        · rcases List.mem_cons.mp hp' with rfl | hp'
          · exact Nat.ne_of_lt lq.2
          · cases hp'
      · intro t ht
        have ht0 : t = 0 := by
          have : t < 1 := ht
          omega
        subst ht0
        exact ⟨D1, u1, 0, rfl, .head _, hu1.trans hrow0.symm⟩
    · rintro j m' news' h' tk' I o t hj hpk1 F N hneI
      refine gen_goal fun GX hGX => ?_
      obtain ⟨x, tx, P, items, np, rest, sep, em, eh, rfl, hrest, hsep, hxr, hsz, hands⟩ := hpk1
      refine hGX ?_
      clear hGX
      have hsl : sep.length ≤ 2 := by rcases hsep with h | h | h <;> rw [h] <;> decide
      have hPI : @Ne Nat P I := hneI _ (.head _)
      refine wpAny_assign_Name (storeX_L F N (fun h'' F N => ?_))
      k_steps
      (with_reducible rename Fr _ _ _ _ => F); (with_reducible rename News _ _ _ _ => N)
      refine Stop.out ?_
      refine quote_at G (hA'.le (by decide)) F N (hmail j x sep (by omega) hsl hxr) ?_
      intro t2 h2 tk2 F N
      have hxr2 : (dots true (eols false x.cps.toList)) = joinL [13, 10] ((ns.map fun d => d.toNat + (j + 1)).map rowL) := by
        rw [hxr, eols_join hsep _ (hplain j), dots_join _ (fun d hd => by
          obtain ⟨d', hd', rfl⟩ := List.mem_map.mp hd
          have := hb d' hd'
          omega), List.map_map, List.map_map]
        rfl
      have hsz2 : (mkS (dots true (eols false x.cps.toList))).cps.size ≤ 2 ^ 18 := hmail (j + 1) _ [13, 10] (by omega) (by decide) hxr2
      generalize hx2 : (⟨(dots true (eols false x.cps.toList)).toArray⟩ : Str) = x2
      have hx2r : x2.cps.toList = joinL [13, 10] ((ns.map fun d => d.toNat + (j + 1)).map rowL) := by rw [← hx2]; exact hxr2
      have hx2s : x2.cps.size ≤ 2 ^ 18 := by rw [← hx2]; exact hsz2
      k_steps
      (with_reducible rename Fr _ _ _ _ => F); (with_reducible rename News _ _ _ _ => N)
      refine Stop.out ?_
      refine split_at F N (hne (j + 1)) (fun r hr => (hplain (j + 1) r hr).2) hx2r (by omega) ?_
      intro D2 u2 h3 tk3 hu2 F N l1
      have l2 : @LT.lt Nat _ I D2 := l1 _ (.head _)
      have l3 : @LT.lt Nat _ P D2 := l1 _ (.tail _ (.head _))
      have l4 : ∀ p ∈ rest, p.1 < D2 := fun p hp => l1 _ (.tail _ (.tail _ hp))
      clear l1
      have hisz : items.size ≤ sizeLine := by rw [sizeLine_eq]; omega
      k_steps
      (with_reducible rename Fr _ _ _ _ => F); (with_reducible rename News _ _ _ _ => N)
      dsimp only
      refine append_K (its := items) (n := np) F N (Upd.tail (Nat.ne_of_gt l3) (Upd.tail hPI.symm (Upd.head hrest))) (fun h' F N => ?_) hisz
      k_steps
      (with_reducible rename Fr _ _ _ _ => F); (with_reducible rename News _ _ _ _ => N)
      refine ⟨_, (P, listOf (items.push (.ref D2)) (np + 1)) :: (D2, listOf (strValues u2).toArray 0) :: rest, _, _, rfl, ?_, F, ?_, ?_⟩
      · refine ⟨x2, t2, P, items.push (.ref D2), np + 1, _, [13, 10], rfl, eh, rfl, ?_, .inr (.inr rfl), hx2r, by rw [Array.size_push, hsz], ?_⟩
        · intro p hp'
          rcases List.mem_cons.mp hp' with rfl | hp'
          · exact Nat.ne_of_gt l3
          · exact hrest p hp'
        · refine hands.push (fun p hp => .tail _ hp) ⟨D2, u2, 0, rfl, .head _, ?_⟩
          rw [hsz, hu2, rowsAt_eq ns (j + 1) hb0]
      · intro p hp'
        refine N p ?_
        rcases List.mem_cons.mp hp' with rfl | hp'
        · exact .tail _ (.head _)
        · rcases List.mem_cons.mp hp' with rfl | hp'
          · exact .tail _ (.tail _ (.head _))
          · rcases List.mem_cons.mp hp' with rfl | hp'
            · exact .head _
            · exact .tail _ (.tail _ (.tail _ hp'))
      · intro p hp'
        rcases List.mem_cons.mp hp' with rfl | hp'
        · exact hPI
        · rcases List.mem_cons.mp hp' with rfl | hp'
          · exact Nat.ne_of_gt l2
          · exact hneI p (.tail _ hp')
    · rintro m' news' h' tk' hpk2 F N
      refine gen_goal fun GX hGX => ?_
      obtain ⟨x, tx, P, items, np, rest, sep, em, eh, rfl, hrest, hsep, hxr, hsz, hands⟩ := hpk2
      refine hGX ?_
      clear hGX
      k_steps
      exact hQ P items np rest ⟨h', gens, drawn, _, os⟩ ⟨h', _, rfl, F.keep⟩ (fun p hp' => ⟨(N p hp').1, (N p hp').2.2⟩) hsz hands
end
end Mine
end

section
open PySem PySem.W PySem.Calls PyProof.Rows
set_option Elab.async false
namespace Mine
set_option maxRecDepth 100000
set_option maxHeartbeats 4000000

theorem compTurn_last {elt iter : Expr} {gens : List Comprehension} {x : Str} {px : Pos} {d : Nat} {scope : Scope} {pos : Pos} {it acc : Value} {env : Env}
    (hg : gens[d]? = some ⟨.Name x px, iter, [], 0⟩) (hn : gens[d + 1]? = none) :
    compTurn (.ListComp elt gens scope pos) d it acc env = (standAt iter.pos >>= fun _ => pyNext it >>= fun r => match r with
      | none => pure (.done .next)
      | some v => assign (.Name x px) env v >>= fun _ => (eval elt env >>= fun y => call (.builtin "list.append") [acc, y] >>= fun _ => (pure () : Sem Unit)) >>= fun _ =>
          again (.compLoop (.ListComp elt gens scope pos) d it acc env)) := by
  unfold compTurn
  simp only [hg, hn]
  rfl

theorem compTurn_mid {elt iter : Expr} {gens : List Comprehension} {x : Str} {px : Pos} {d : Nat} {scope : Scope} {pos : Pos} {it acc : Value} {env : Env} {t2 i2 : Expr}
    (hg : gens[d]? = some ⟨.Name x px, iter, [], 0⟩) (hn : gens[d + 1]? = some ⟨t2, i2, [], 0⟩) :
    compTurn (.ListComp elt gens scope pos) d it acc env = (standAt iter.pos >>= fun _ => pyNext it >>= fun r => match r with
      | none => pure (.done .next)
      | some v => assign (.Name x px) env v >>= fun _ => (eval i2 env >>= fun y => standAt i2.pos >>= fun _ => foldedSetIterable i2 env y >>= fun y => holding [y] (pyIter y) >>= fun it2 =>
          runOwn (.compStart (.ListComp elt gens scope pos) (d + 1) it2 acc env) env >>= fun _ => (pure () : Sem Unit)) >>= fun _ =>
          again (.compLoop (.ListComp elt gens scope pos) d it acc env)) := by
  unfold compTurn
  simp only [hg, hn]
  show (standAt iter.pos >>= fun _ => pyNext it >>= fun r => match r with
      | none => pure (.done .next)
      | some v => assign (.Name x px) env v >>= fun _ => eval i2 env >>= fun y => standAt i2.pos >>= fun _ => foldedSetIterable i2 env y >>= fun y => holding [y] (pyIter y) >>= fun it2 =>
          runOwn (.compStart (.ListComp elt gens scope pos) (d + 1) it2 acc env) env >>= fun _ =>
          again (.compLoop (.ListComp elt gens scope pos) d it acc env)) = _
  refine congrArg _ (funext fun _ => congrArg _ (funext fun r => ?_))
  cases r with
  | none => rfl
  | some v => simp only [Sem.bind_eq, Sem.bind_assoc]; rfl

section
variable {prog : Program} {w : World} {A : Around} {E : Value → Shared → Prop} {R : Result → Shared → Prop} {s : Shared}

theorem compStart_at {elt target iter : Expr} {gens : List Comprehension} {scope : Scope} {pos : Pos} {d : Nat} {it acc : Value} {env : Env}
    (hg : gens[d]? = some ⟨target, iter, [], 0⟩)
    (h0 : codeAny (model prog w) A (.compLoop (.ListComp elt gens scope pos) d it acc env) R s)
    (h : wpAny (model prog w) A (pyIter it) (fun it' s' => codeAny (model prog w) A (.compLoop (.ListComp elt gens scope pos) d it' acc env) R s')
      (notedBy (model prog w) A env fun x s' => R (.error x) s') s) :
    codeAny (model prog w) A (.compStart (.ListComp elt gens scope pos) d it acc env) R s := by
  refine codeAny_of_tree ?_
  show wpAny _ _ ((compStart (.ListComp elt gens scope pos) d it acc env).onRaise (fun x => do noteFrame x env; standAt theWindowsPlace)) _ _ s
  refine wpAny_notedAt ?_
  have e1 : (clausesOf (.ListComp elt gens scope pos))[d]? = some ⟨target, iter, [], 0⟩ := hg
  unfold compStart
  simp only [e1]
  show wpAny _ _ (ask >>= _) _ _ s
  refine wpAny_bind (wpAny_askSetting (wpAny_ite ?_))
  split
  · first
      | exact wpAny_bind (wpAny_pure (wpAny_pure (And.intro rfl h0)))
      | exact wpAny_pure (And.intro rfl h0)
  · first
      | exact wpAny_bind (wpAny_rule (wpAny_bind (wpAny_standAt (wpAny_bind (wpAny_mono h (fun it' s' h' => wpAny_pure (And.intro rfl h')) fun _ _ x => x)))))
      | (refine wpAny_bind (wpAny_rule ?_); show wpAny _ _ (standAt iter.pos >>= _) _ _ s; exact wpAny_bind (wpAny_standAt (wpAny_bind (wpAny_mono h (fun it' s' h' => wpAny_pure (And.intro rfl h')) fun _ _ x => x))))

/-- a clause's loop -/
theorem compLoop_at {elt : Expr} {gens : List Comprehension} {iter : Expr} {x : Str} {px : Pos} {d : Nat} {scope : Scope} {pos : Pos} {it acc : Value} {env : Env} {body : Sem Unit} (I : Nat → Shared → Prop)
    (hc : compTurn (.ListComp elt gens scope pos) d it acc env = (standAt iter.pos >>= fun _ => pyNext it >>= fun r => match r with
      | none => pure (.done .next)
      | some v => assign (.Name x px) env v >>= fun _ => body >>= fun _ => again (.compLoop (.ListComp elt gens scope pos) d it acc env)))
    (turn : ∀ n s, I n s → wpAny (model prog w) A (pyNext it) (fun r s₁ => match r with
      | none => R (.ok .next) s₁
      | some v => wpAny (model prog w) A (assign (.Name x px) env v) (fun _ s₂ => wpAny (model prog w) A body (fun _ s₃ => ∃ m, m < n ∧ I m s₃) (fun _ _ => False) s₂) (fun _ _ => False) s₁) (fun _ _ => False) s)
    (n : Nat) (h : I n s) :
    codeAny (model prog w) A (.compLoop (.ListComp elt gens scope pos) d it acc env) R s := by
  refine codeAny_loop rfl I (fun n s hI => ?_) n h
  show wpAny _ _ ((compTurn (.ListComp elt gens scope pos) d it acc env).onRaise (fun x => do noteFrame x env; theTreesLotGoes x)) _ _ s
  refine wpAny_noted ?_
  rw [hc]
  refine wpAny_bind (wpAny_standAt (wpAny_bind (wpAny_mono (turn n s hI) (fun r s₁ h₁ => ?_) fun _ _ h' => h'.elim)))
  cases r with
  | none => exact wpAny_pure h₁
  | some v => exact wpAny_bind (wpAny_mono h₁ (fun _ s₂ h₂ => wpAny_bind (wpAny_mono h₂ (fun _ s₃ h₃ => wpAny_pure ⟨rfl, h₃⟩) fun _ _ h' => h'.elim)) fun _ _ h' => h'.elim)
end
end Mine
end

section
open PySem PySem.W PySem.Calls PyProof.Rows
set_option Elab.async false
namespace Mine
set_option maxRecDepth 100000
set_option maxHeartbeats 4000000

/-- the names with one more -/
noncomputable def upd (m : Str → Option Value) (x : Str) (v : Value) : Str → Option Value := fun y => if y = x then some v else m y

/-- a clause's state -/
structure CSt (hp : Heap) (C D I l : Addr) (its : List (Addr × Obj)) (i : Nat) (ys : List Value) (m : Str → Option Value) (h : Heap) : Prop where
  F : Fr hp C h m
  N : ∃ oI n, News hp C h ((I, oI) :: (D, listOf ys.toArray n) :: its)
  it : h.IsListIter I l i

theorem CSt.keepsAll {hp : Heap} {C D I l : Addr} {its : List (Addr × Obj)} {i : Nat} {ys : List Value} {m : Str → Option Value} {h h' : Heap} (x : CSt hp C D I l its i ys m h) (hk : ∀ b o, h.get? b = some o → h'.get? b = some o) : CSt hp C D I l its i ys m h' :=
  ⟨Fr.keepsAll x.F hk, let ⟨o, n, N⟩ := x.N; ⟨o, n, News.keepsAll N hk⟩, x.it.at fun o e => hk _ o e⟩

theorem CSt.lt {hp : Heap} {C D I l : Addr} {its : List (Addr × Obj)} {i : Nat} {ys : List Value} {m : Str → Option Value} {h : Heap} (x : CSt hp C D I l its i ys m h) : D < h.objs.size ∧ I < h.objs.size ∧ C < h.objs.size ∧ ∀ p ∈ its, p.1 < h.objs.size :=
  let ⟨_, _, N⟩ := x.N; ⟨Heap.lt_size (N _ (.tail _ (.head _))).1, Heap.lt_size (N _ (.head _)).1, (let ⟨_, _, _, hL, _⟩ := x.F.ns; Heap.lt_size hL), fun p hp => Heap.lt_size (N p (.tail _ (.tail _ hp))).1⟩

/-- what a clause's loop comes to -/
noncomputable def CDone (hp : Heap) (C D : Addr) (its : List (Addr × Obj)) (K : (Str → Option Value) → Prop) (gens : Array GenState) (drawn : Drawn) (os : OsState) (zs : List Value) (ns : List Int) (r : Result) (s' : Shared) : Prop :=
  ∃ h' tk' m' vs n', r = .ok .next ∧ s' = ⟨h', gens, drawn, tk', os⟩ ∧ Fr hp C h' m' ∧ News hp C h' ((D, listOf (zs ++ vs).toArray n') :: its) ∧ K m' ∧ IntsAre vs ns

noncomputable def Lvl (w : World) (A : Around) (e : Expr) (d : Nat) (env : Env) (hp : Heap) (C D l : Addr) (K : (Str → Option Value) → Prop) (gens : Array GenState) (drawn : Drawn) (os : OsState) (ns : List Int) : Prop :=
  ∀ (I : Addr) (its : List (Addr × Obj)) (zs : List Value) (m : Str → Option Value) (h : Heap) (tk : Nat), @Ne Nat D I → (∀ p ∈ its, p.1 ≠ I ∧ p.1 ≠ D) → CSt hp C D I l its 0 zs m h → K m → zs.length + ns.length ≤ 2 ^ 20 →
    codeAny (model prog0 w) A (.compLoop e d (.ref I) (.ref D) env) (CDone hp C D its K gens drawn os zs ns) ⟨h, gens, drawn, tk, os⟩

theorem flat_single : ∀ ns : List Int, ns = (ns.map fun n => [n]).flatten
  | [] => rfl
  | a :: r => by rw [List.map_cons, List.flatten_cons, ← flat_single r]; rfl

theorem upd_self {m : Str → Option Value} {x : Str} {v : Value} : upd m x v x = some v := by simp [upd]

theorem len_take_flat {nss : List (List Int)} {i : Nat} {ns : List Int} (h : nss[i]? = some ns) : (nss.take i).flatten ++ ns = (nss.take (i + 1)).flatten ∧ (nss.take i).flatten.length + ns.length ≤ nss.flatten.length := by
  have e : nss.take (i + 1) = nss.take i ++ [ns] := by rw [List.take_add_one, h]; rfl
  refine ⟨by rw [e]; simp, ?_⟩
  have e2 : nss.flatten = (nss.take (i + 1)).flatten ++ (nss.drop (i + 1)).flatten := by rw [← List.flatten_append, List.take_append_drop]
  rw [e2, e]
  simp

section
variable {w : World} {A : Around} {gens : Array GenState} {drawn : Drawn} {os : OsState}

theorem lvl_loop {elt iter : Expr} {cs : List Comprehension} {x : Str} {px : Pos} {d : Nat} {scope : Scope} {pos : Pos} {env : Env} {hp : Heap} {C D l : Addr} {items : Array Value} {K : (Str → Option Value) → Prop} {nss : List (List Int)} {body : Value → Sem Unit}
    (hh : A.handled = none) (hC : env.locals = C) (hx : env.kindOf x = some .local) (hkf : env.scope.kind = .function)
    (hc : ∀ it, compTurn (.ListComp elt cs scope pos) d it (.ref D) env = (standAt iter.pos >>= fun _ => pyNext it >>= fun r => match r with
      | none => pure (.done .next)
      | some v => assign (.Name x px) env v >>= fun _ => body (.ref D) >>= fun _ => again (.compLoop (.ListComp elt cs scope pos) d it (.ref D) env)))
    (hl : hp.IsList l items) (hsz : items.size = nss.length) (hK : ∀ m v, K m → K (upd m x v))
    (hbody : ∀ I its (i : Nat) v ns h m zs tk, items[i]? = some v → nss[i]? = some ns → @Ne Nat D I → (∀ p ∈ its, p.1 ≠ I ∧ p.1 ≠ D) → CSt hp C D I l its (i + 1) zs m h → K m → m x = some v → zs.length + ns.length ≤ 2 ^ 20 →
      wpAny (model prog0 w) A (body (.ref D)) (fun _ s' => ∃ h' tk' m' vs, s' = ⟨h', gens, drawn, tk', os⟩ ∧ CSt hp C D I l its (i + 1) (zs ++ vs) m' h' ∧ K m' ∧ IntsAre vs ns) (fun _ _ => False) ⟨h, gens, drawn, tk, os⟩) :
    Lvl w A (.ListComp elt cs scope pos) d env hp C D l K gens drawn os nss.flatten := by
  intro I its zs m h tk hDI hits S0 hKm hB
  subst hC
  refine compLoop_at (fun k s' => ∃ (i : Nat) (h' : Heap) (tk' : Nat) (m' : Str → Option Value) (vs : List Value), s' = ⟨h', gens, drawn, tk', os⟩ ∧ k = items.size - i ∧ i ≤ items.size ∧
    CSt hp env.locals D I l its i (zs ++ vs) m' h' ∧ K m' ∧ IntsAre vs (nss.take i).flatten) (hc (.ref I)) ?_ items.size ⟨0, h, tk, m, [], rfl, rfl, Nat.zero_le _, by rw [List.append_nil]; exact S0, hKm, by simpa using IntsAre.nil⟩
  rintro k s' hpk1
  refine gen_goal fun GX hGX => ?_
  obtain ⟨i, h', tk', m', vs, rfl, rfl, hi, S, hKm', hvs⟩ := hpk1
  refine hGX ?_
  clear hGX
  obtain ⟨oI, n, N⟩ := S.N
  have hne : ∀ p ∈ (D, listOf (zs ++ vs).toArray n) :: its, p.1 ≠ I := fun p hp' => by
    rcases List.mem_cons.mp hp' with rfl | hp'
    · exact hDI
    · exact (hits p hp').1
  have hl' : h'.IsList l items := IsList.keepsAll hl S.F.keep
  by_cases hlt : i < items.size
  · refine wpAny_pyNext_list_item S.it hl' (x := items[i]) (by simp [hlt]) fun h1 hit1 hs1 => ?_
    have hk1 : ∀ b o, b ≠ I → h'.get? b = some o → h1.get? b = some o := fun b o hb e => (hs1.2 b hb).trans e
    obtain ⟨o1, ho1, hr1⟩ := id hit1
    have F1 := Fr.iter S.F N hk1
    have N1 := News.iter N hne hk1 ho1
    refine wpAny_assign_Name (wpAny_storeName_local hx F1.ns (fun h2 hn2 hs2 => ?_) (by rw [hkf]; rfl))
    have F2 : Fr hp env.locals h2 (upd m' x items[i]) := F1.set hn2 hs2
    have hk2 : ∀ b o, b ≠ env.locals → h1.get? b = some o → h2.get? b = some o := fun b o hb e => (hs2.2 b hb).trans e
    have N2 : News hp env.locals h2 ((I, o1) :: (D, listOf (zs ++ vs).toArray n) :: its) := fun p hp' => ⟨hk2 _ _ (N1 p hp').2.1 (N1 p hp').1, (N1 p hp').2⟩
    have S2 : CSt hp env.locals D I l its (i + 1) (zs ++ vs) (upd m' x items[i]) h2 := ⟨F2, ⟨o1, n, N2⟩, ⟨o1, (N2 _ (.head _)).1, hr1⟩⟩
    have hni : nss[i]? = some nss[i] := by simp [← hsz, hlt]
    obtain ⟨e1, e2⟩ := len_take_flat hni
    have hvl := IntsAre.length hvs
    refine wpAny_mono (hbody I its i items[i] nss[i] h2 _ (zs ++ vs) _ (by simp [hlt]) hni hDI hits S2 (hK _ _ hKm') upd_self (by rw [List.length_append]; omega)) (fun _ s3 h3 => ?_) fun _ _ e => e
    refine gen_goal fun GX hGX => ?_
    obtain ⟨h3', tk3, m3, us, rfl, S3, hK3, hus⟩ := h3
    refine hGX ?_
    clear hGX
    exact ⟨items.size - (i + 1), sub_step (by assumption), i + 1, h3', tk3, m3, vs ++ us, rfl, rfl, hlt, by rw [← List.append_assoc]; exact S3, hK3, e1 ▸ IntsAre.append hvs hus⟩
  · have hie : i = items.size := by omega
    subst hie
    refine wpAny_pyNext_list_end hh S.it hl' (by simp) fun h1 he1 => ?_
    have hk1 : ∀ b o, b ≠ I → h'.get? b = some o → h1.get? b = some o := fun b o hb e => he1 b o hb e
    refine ⟨h1, _, m', vs, n, rfl, rfl, Fr.iter S.F N hk1, fun p hp' => ?_, hKm', ?_⟩
    · exact ⟨hk1 _ _ (hne p hp') (N p (.tail _ hp')).1, (N p (.tail _ hp')).2⟩
    · rw [hsz, List.take_length] at hvs; exact hvs

theorem lvl_last {elt iter : Expr} {cs : List Comprehension} {x : Str} {px : Pos} {d : Nat} {scope : Scope} {pos : Pos} {env : Env} {hp : Heap} {C D l : Addr} {items : Array Value} {K : (Str → Option Value) → Prop} {ns : List Int}
    (hh : A.handled = none) (hC : env.locals = C) (hx : env.kindOf x = some .local) (hkf : env.scope.kind = .function)
    (hg : cs[d]? = some ⟨.Name x px, iter, [], 0⟩) (hn : cs[d + 1]? = none)
    (hl : hp.IsList l items) (hsz : items.size = ns.length) (hK : ∀ m v, K m → K (upd m x v))
    (helt : ∀ (i : Nat) v n s' m, items[i]? = some v → ns[i]? = some n → Fr hp C s'.heap m → K m → m x = some v → wpAny (model prog0 w) A (eval elt env) (fun y s'' => (∃ t, y = .int n t) ∧ Keeps s' s'') (fun _ _ => False) s') :
    Lvl w A (.ListComp elt cs scope pos) d env hp C D l K gens drawn os ns := by
  have e := flat_single ns
  rw [e]
  refine lvl_loop (body := fun acc => eval elt env >>= fun y => call (.builtin "list.append") [acc, y] >>= fun _ => (pure () : Sem Unit)) hh hC hx hkf (fun it => compTurn_last hg hn) hl (by rw [List.length_map]; exact hsz) hK ?_
  intro I its i v ns' h m zs tk hv hns hDI hits S hKm hmx hB
  rw [List.getElem?_map] at hns
  obtain ⟨n, hn', rfl⟩ := Option.map_eq_some_iff.mp hns
  refine wpAny_bind (wpAny_mono (helt i v n _ m hv hn' S.F hKm hmx) (fun y s'' h' => ?_) fun _ _ e => e)
  obtain ⟨⟨t, rfl⟩, h1, tk1, rfl, hk⟩ := h'
  have S1 := S.keepsAll hk
  obtain ⟨oI, n1, N⟩ := S1.N
  refine wpAny_bind (wpAny_list_append_plain (hsz := ?hz) ⟨n1, (N _ (.tail _ (.head _))).1⟩ fun h2 hl2 hs2 => wpAny_pure ?_)
  case hz =>
    rw [List.size_toArray, sizeLine_eq]
    simp only [List.length_singleton] at hB
    omega
  · obtain ⟨n2, hn2⟩ := hl2
    have hk2 : ∀ b o, b ≠ D → h1.get? b = some o → h2.get? b = some o := fun b o hb e => (hs2.2 b hb).trans e
    have hDC : @Ne Nat C D := fun e => (N _ (.tail _ (.head _))).2.1 e.symm
    refine ⟨h2, tk1, m, [.int n t], rfl, ⟨⟨S1.F.ns.at' fun o e => hk2 _ o hDC e, fun b o e => hk2 b o (fun q => ?_) (S1.F.keep b o e), S1.F.above⟩, ⟨oI, n2, fun p hp' => ?_⟩, S1.it.at fun o e => hk2 _ o hDI.symm e⟩, hKm, .cons _ _ .nil⟩
    · have := (N _ (.tail _ (.head _))).2.2
      rw [q, this] at e; cases e
    · rcases List.mem_cons.mp hp' with rfl | hp'
      · exact ⟨hk2 _ _ hDI.symm (N _ (.head _)).1, (N _ (.head _)).2⟩
      · rcases List.mem_cons.mp hp' with rfl | hp'
        · refine ⟨?_, (N _ (.tail _ (.head _))).2⟩
          rw [List.push_toArray] at hn2
          exact hn2
        · exact ⟨hk2 _ _ (hits p hp').2 (N _ (.tail _ (.tail _ hp'))).1, (N _ (.tail _ (.tail _ hp'))).2⟩

theorem lvl_mid {elt iter : Expr} {cs : List Comprehension} {x x2 : Str} {px px2 : Pos} {i2 : Expr} {d : Nat} {scope : Scope} {pos : Pos} {env : Env} {hp : Heap} {C D l : Addr} {items : Array Value} {K : (Str → Option Value) → Prop} {nss : List (List Int)}
    (hh : A.handled = none) (hC : env.locals = C) (hx : env.kindOf x = some .local) (hkf : env.scope.kind = .function)
    (hg : cs[d]? = some ⟨.Name x px, iter, [], 0⟩) (hn : cs[d + 1]? = some ⟨.Name x2 px2, i2, [], 0⟩)
    (hl : hp.IsList l items) (hsz : items.size = nss.length) (hK : ∀ m v, K m → K (upd m x v)) (hfs : ∀ y, foldedSetIterable i2 env y = pure y)
    (hin : ∀ (i : Nat) v ns, items[i]? = some v → nss[i]? = some ns → ∃ l2 its2, hp.IsList l2 its2 ∧ (∀ h m tk, Fr hp C h m → K m → m x = some v → wpAny (model prog0 w) A (eval i2 env) (fun y s' => y = .ref l2 ∧ ∃ tk', s' = ⟨h, gens, drawn, tk', os⟩) (fun _ _ => False) ⟨h, gens, drawn, tk, os⟩) ∧
      Lvl w A (.ListComp elt cs scope pos) (d + 1) env hp C D l2 (fun m => K m ∧ m x = some v) gens drawn os ns) :
    Lvl w A (.ListComp elt cs scope pos) d env hp C D l K gens drawn os nss.flatten := by
  refine lvl_loop (body := fun acc => eval i2 env >>= fun y => standAt i2.pos >>= fun _ => foldedSetIterable i2 env y >>= fun y => holding [y] (pyIter y) >>= fun it2 =>
          runOwn (.compStart (.ListComp elt cs scope pos) (d + 1) it2 acc env) env >>= fun _ => (pure () : Sem Unit)) hh hC hx hkf (fun it => compTurn_mid hg hn) hl hsz hK ?_
  intro I its i v ns h m zs tk hv hns hDI hits S hKm hmx hB
  obtain ⟨l2, its2, hl2, hev, hL⟩ := hin i v ns hv hns
  refine wpAny_bind (wpAny_mono (hev h m tk S.F hKm hmx) (fun y s' hy => ?_) fun _ _ e => e)
  obtain ⟨rfl, tk1, rfl⟩ := hy
  refine wpAny_bind (wpAny_standAt (wpAny_bind (wpAny_of_eq (hfs _) ?_)))
  refine wpAny_bind (wpAny_holding (wpAny_pyIter_list (IsList.keepsAll hl2 S.F.keep) ?_))
  dsimp only
  obtain ⟨oI, n1, N⟩ := S.N
  have lts := S.lt
  have N2 := N.push S.F { cls := .type "list_iterator", data := .fields #[.ref l2, .int 0 0] }
  have F2 := S.F.push { cls := .type "list_iterator", data := .fields #[.ref l2, .int 0 0] }
  have S2 : CSt hp C D h.objs.size l2 ((I, oI) :: its) 0 zs m (h.push { cls := .type "list_iterator", data := .fields #[.ref l2, .int 0 0] }) := by
    refine ⟨F2, ⟨({ cls := .type "list_iterator", data := .fields #[.ref l2, .int 0 0] } : Obj), n1, fun p hp' => N2 p ?_⟩, ⟨_, Heap.get?_push_size _ rfl, rfl, rfl⟩⟩
    rcases List.mem_cons.mp hp' with rfl | hp'
    · exact .head _
    · rcases List.mem_cons.mp hp' with rfl | hp'
      · exact .tail _ (.tail _ (.head _))
      · rcases List.mem_cons.mp hp' with rfl | hp'
        · exact .tail _ (.head _)
        · exact .tail _ (.tail _ (.tail _ hp'))
  have key : ∀ tk, codeAny (model prog0 w) A (.compLoop (.ListComp elt cs scope pos) (d + 1) (.ref h.objs.size) (.ref D) env) (CDone hp C D ((I, oI) :: its) (fun m => K m ∧ m x = some v) gens drawn os zs ns) ⟨_, gens, drawn, tk, os⟩ :=
    fun tk => hL h.objs.size ((I, oI) :: its) zs m _ tk (Nat.ne_of_lt lts.1) (fun p hp' => by
      rcases List.mem_cons.mp hp' with rfl | hp'
      · exact ⟨Nat.ne_of_lt lts.2.1, hDI.symm⟩
      · exact ⟨Nat.ne_of_lt (lts.2.2.2 p hp'), (hits p hp').2⟩) S2 ⟨hKm, hmx⟩ hB
  have fin : ∀ r s', CDone hp C D ((I, oI) :: its) (fun m => K m ∧ m x = some v) gens drawn os zs ns r s' → (match r with | .ok _ => ∃ h' tk' m' vs, s' = ⟨h', gens, drawn, tk', os⟩ ∧ CSt hp C D I l its (i + 1) (zs ++ vs) m' h' ∧ K m' ∧ IntsAre vs ns | .error e => cameBackBy (model prog0 w) A env (fun _ _ => False) e s') := by
    rintro r s' ⟨h3, tk3, m3, vs, n3, rfl, rfl, F3, N3, hK3, hvs⟩
    refine ⟨h3, tk3, m3, vs, rfl, ⟨F3, ⟨oI, n3, fun p hp' => N3 p ?_⟩, ?_⟩, hK3.1, hvs⟩
    · rcases List.mem_cons.mp hp' with rfl | hp'
      · exact .tail _ (.head _)
      · rcases List.mem_cons.mp hp' with rfl | hp'
        · exact .head _
        · exact .tail _ (.tail _ hp')
    · obtain ⟨oJ, hJ, hr⟩ := S.it
      have : oJ = oI := by rw [(N _ (.head _)).1] at hJ; exact (Option.some.inj hJ).symm
      subst this
      exact ⟨oJ, (N3 _ (.tail _ (.head _))).1, hr⟩
  refine wpAny_bind (wpAny_runOwn (codeAny_mono (compStart_at hn (key _) (wpAny_pyIter_listiter S2.it (key _))) fun r s' hr => ?_))
  have := fin r s' hr
  cases r with
  | ok f => exact wpAny_pure this
  | error e => exact this
end
end Mine
end

section
open PySem PySem.W PySem.Calls PyProof.Rows
set_option Elab.async false
namespace Mine
set_option maxRecDepth 100000
set_option maxHeartbeats 4000000

theorem IsListIter.new {h : Heap} {l : Addr} : (h.push { cls := .type "list_iterator", data := .fields #[.ref l, .int 0 0] }).IsListIter h.objs.size l 0 := ⟨_, Heap.get?_push_size _ rfl, rfl, rfl⟩

section
variable {w : World} {A : Around} {gens : Array GenState} {drawn : Drawn} {os : OsState} {tk : Nat} {E : Value → Shared → Prop}
  {g hp : Heap} {L : Addr} {m : Str → Option Value} {news : List (Addr × Obj)} {env : Env} {elt iter : Expr} {x : Str} {px : Pos} {scope : Scope} {cl : List (Str × Addr)} {pos : Pos} {cs : List Comprehension}

/-- the block of a comprehension of several clauses, over a list -/
theorem comp_core {l : Addr} {ns : List Int} {RR : Value → Addr → Result → Shared → Prop} (F : Fr g L hp m) (N : News g L hp news) (hl : ∃ its, hp.IsList l its)
    (hcell : ∀ y ∈ scope.names, y.2 ≠ .cell) (hkind : scope.kind = .function) (hg : cs[0]? = some ⟨.Name x px, iter, [], 0⟩) (hB : ns.length ≤ 2 ^ 20)
    (hit : wpAny (model prog0 w) A (eval iter env) (fun xv s₁ => xv = .ref l ∧ ∃ tk', s₁ = ⟨hp, gens, drawn, tk', os⟩) E ⟨hp, gens, drawn, tk, os⟩)
    (hlvl : ∀ (C D : Addr), Lvl w A (.ListComp elt cs scope pos) 0 (compEnvC scope cl C env) hp C D l (fun _ => True) gens drawn os ns)
    (hRR : ∀ C D h' tk' m' ys n, Fr g L h' m → News g L h' ((D, listOf ys n) :: news) → (∀ p ∈ news, p.1 ≠ D) → IntsAre ys.toList ns → @Ne Nat C D → @Ne Nat C L → (∀ p ∈ news, p.1 ≠ C) → g.get? C = none → h'.Ns C m' → RR (.ref D) C (.ok .next) ⟨h', gens, drawn, tk', os⟩) :
    wpAny (model prog0 w) A (eval iter env) (fun xv s₁ => wpAny (model prog0 w) A (pyIter xv) (fun it s₂ => wpAny (model prog0 w) A (newList []) (fun acc s₃ => wpAny (model prog0 w) A (newFunctionEnv scope env.globals cl [] env.qual none .none (some env)) (fun cenv s₄ =>
      codeAny (model prog0 w) A (.compStart (.ListComp elt cs scope pos) 0 it acc { cenv with scope := relabel scope env }) (RR acc cenv.locals) s₄) E s₃) E s₂) E s₁) E ⟨hp, gens, drawn, tk, os⟩ := by
  refine wpAny_mono hit (fun xv s₁ h₁ => ?_) fun _ _ e => e
  obtain ⟨rfl, tk1, rfl⟩ := h₁
  obtain ⟨its, hl⟩ := hl
  refine wpAny_pyIter_list hl ?_
  dsimp only
  have hII := IsListIter.new (h := hp) (l := l)
  generalize hH1 : hp.push { cls := .type "list_iterator", data := .fields #[.ref l, .int 0 0] } = H1 at hII ⊢
  have hk1 : ∀ b o, hp.get? b = some o → H1.get? b = some o := fun b o e => hH1 ▸ Heap.get?_push_of_some _ e
  have hs1 : H1.objs.size = hp.objs.size + 1 := by rw [← hH1, Heap.size_push]
  refine wpAny_newObj_type (wpAny_newFunctionEnv hcell (by intro y hy; simp at hy) (fun h₁ hns₁ hsb₁ => ?_) hkind)
  dsimp only at hns₁ hsb₁ ⊢
  generalize hH2 : H1.push { cls := .type "list", dict := none, data := .seq ([] : List Value).toArray } = H2 at hns₁ hsb₁ ⊢
  have hs2 : H2.objs.size = hp.objs.size + 2 := by rw [← hH2, Heap.size_push, hs1]
  have hk2 : ∀ b o, H1.get? b = some o → H2.get? b = some o := fun b o e => hH2 ▸ Heap.get?_push_of_some _ e
  have hD2 : H2.get? H1.objs.size = some (listOf #[] 0) := by rw [← hH2]; exact Heap.get?_push_size _ rfl
  have hk3 : ∀ b o, H2.get? b = some o → h₁.get? b = some o := fun b o e => hsb₁.extBut b o (Nat.ne_of_lt (Heap.lt_size e)) (Heap.get?_push_of_some _ e)
  have fresh : ∀ a, hp.objs.size ≤ a → hp.get? a = none := fun a ha => by
    cases e : hp.get? a with
    | none => rfl
    | some o' => exact absurd (Heap.lt_size e) (Nat.not_lt.mpr ha)
  have hDI : @Ne Nat H1.objs.size hp.objs.size := by rw [hs1]; exact Nat.succ_ne_self _
  have hDC : @Ne Nat H1.objs.size H2.objs.size := by rw [hs1, hs2]; exact Nat.ne_of_lt (Nat.lt_succ_self _)
  have hIC : @Ne Nat hp.objs.size H2.objs.size := by rw [hs2]; exact Nat.ne_of_lt (Nat.lt_succ_of_lt (Nat.lt_succ_self _))
  obtain ⟨oI, hoI, hrI⟩ := id hII
  have S0 : CSt hp H2.objs.size H1.objs.size hp.objs.size l [] 0 [] (fun x => ([] : List (Str × Value)).reverse.lookup x) h₁ := by
    refine ⟨⟨hns₁, fun b o e => hk3 _ _ (hk2 _ _ (hk1 _ _ e)), by rw [hs2]; exact Nat.le_add_right _ _⟩, ⟨oI, 0, fun p hp' => ?_⟩, ⟨oI, hk3 _ _ (hk2 _ _ hoI), hrI⟩⟩
    rcases List.mem_cons.mp hp' with rfl | hp'
    · exact ⟨hk3 _ _ (hk2 _ _ hoI), hIC, fresh _ (Nat.le_refl _)⟩
    · rcases List.mem_cons.mp hp' with rfl | hp'
      · exact ⟨hk3 _ _ hD2, hDC, fresh _ (by rw [hs1]; exact Nat.le_succ _)⟩
      · cases hp'
  have key : ∀ tk, codeAny (model prog0 w) A (.compLoop (.ListComp elt cs scope pos) 0 (.ref hp.objs.size) (.ref H1.objs.size) (compEnvC scope cl H2.objs.size env)) (RR (.ref H1.objs.size) H2.objs.size) ⟨h₁, gens, drawn, tk, os⟩ := by
    intro tk
    refine codeAny_mono (hlvl H2.objs.size H1.objs.size hp.objs.size [] [] _ h₁ tk hDI (fun p hp' => by cases hp') S0 trivial (by simpa using hB)) fun r s' hr => ?_
    obtain ⟨h', tk', m', vs, n', rfl, rfl, F', N', _, hvs⟩ := hr
    have kk : ∀ b o, hp.get? b = some o → h'.get? b = some o := F'.keep
    have ltn : ∀ b o, hp.get? b = some o → b < hp.objs.size := fun b o e => Heap.lt_size e
    refine hRR H2.objs.size H1.objs.size h' tk' m' _ n' (Fr.keepsAll F kk) (fun p hp' => ?_) (fun p hp' => ?_) (by simpa using hvs) hDC.symm ?_ (fun p hp' => ?_) ?_ F'.ns
    · rcases List.mem_cons.mp hp' with rfl | hp'
      · refine ⟨(N' _ (.head _)).1, ?_, ?_⟩
        · obtain ⟨oL, _, _, hL, _⟩ := F.ns
          have := ltn _ _ hL
          show H1.objs.size ≠ L
          rw [hs1]; exact Nat.ne_of_gt (Nat.lt_succ_of_lt this)
        · cases q : g.get? H1.objs.size with
          | none => rfl
          | some o => have := ltn _ _ (F.keep _ _ q); rw [hs1] at this; exact absurd this (Nat.not_lt.mpr (Nat.le_succ _))
      · exact ⟨kk _ _ (N p hp').1, (N p hp').2⟩
    · have := ltn _ _ (N p hp').1
      rw [hs1]; exact Nat.ne_of_lt (Nat.lt_succ_of_lt this)
    · obtain ⟨oL, _, _, hL, _⟩ := F.ns
      have := ltn _ _ hL
      rw [hs2]; exact Nat.ne_of_gt (Nat.lt_succ_of_lt (Nat.lt_succ_of_lt this))
    · have := ltn _ _ (N p hp').1
      rw [hs2]; exact Nat.ne_of_lt (Nat.lt_succ_of_lt (Nat.lt_succ_of_lt this))
    · cases q : g.get? H2.objs.size with
      | none => rfl
      | some o => have := ltn _ _ (F.keep _ _ q); rw [hs2] at this; exact absurd this (Nat.not_lt.mpr (Nat.le_add_right _ _))
  exact compStart_at hg (key _) (wpAny_pyIter_listiter (S0.it) (key _))

theorem lc_multi {l : Addr} {ns : List Int} {Q : Value → Shared → Prop} (F : Fr g L hp m) (N : News g L hp news) (hl : ∃ its, hp.IsList l its)
    (hcs : ∃ c cs', cs = c :: cs') (hclos : closureFor scope env = pure cl) (hnames : ∀ y ∈ scope.names, y.2 = .local → scope.names.lookup y.1 = some .local)
    (hcell : ∀ y ∈ scope.names, y.2 ≠ .cell) (hkind : scope.kind = .function) (hg : cs[0]? = some ⟨.Name x px, iter, [], 0⟩) (hB : ns.length ≤ 2 ^ 20)
    (hit : wpAny (model prog0 w) A (eval iter env) (fun xv s₁ => xv = .ref l ∧ ∃ tk', s₁ = ⟨hp, gens, drawn, tk', os⟩) E ⟨hp, gens, drawn, tk, os⟩)
    (hlvl : ∀ (C D : Addr), Lvl w A (.ListComp elt cs scope pos) 0 (compEnvC scope cl C env) hp C D l (fun _ => True) gens drawn os ns)
    (hQ : ∀ D h' tk' ys n, Fr g L h' m → News g L h' ((D, listOf ys n) :: news) → (∀ p ∈ news, p.1 ≠ D) → IntsAre ys.toList ns → Q (.ref D) ⟨h', gens, drawn, tk', os⟩)
    (hs : ∀ x, foldedSetIterable iter env x = pure x) (hfi : firstIter cs env = eval iter env) (hfa : firstAsync cs = false) :
    wpAny (model prog0 w) A (eval (.ListComp elt cs scope pos) env) Q E ⟨hp, gens, drawn, tk, os⟩ := by
  obtain ⟨c, cs', rfl⟩ := hcs
  obtain rfl : c = ⟨.Name x px, iter, [], 0⟩ := Option.some.inj hg
  rw [eval_ListComp]
  refine wpAny_comprehension_free (use := none) rfl hs hclos hkind hnames ?_
  refine comp_core (RR := fun acc C => compPost (model prog0 w) A E none Q acc C) F N hl hcell hkind hg hB hit hlvl ?_
  intro C D h' tk' m' ys n F' N' hD hi hCD hCL hCn hgC hC
  refine ⟨m', hC, fun h'' hs'' => ?_⟩
  have hkk : ∀ b o, b ≠ C → h'.get? b = some o → h''.get? b = some o := fun b o hb e => (hs''.2 b hb).trans e
  refine hQ D h'' tk' ys n ⟨F'.ns.at' fun o e => hkk _ o hCL.symm e, fun b o e => hkk b o (fun q => by rw [q, hgC] at e; cases e) (F'.keep b o e), F'.above⟩ (fun p hp' => ⟨hkk _ _ ?_ (N' p hp').1, (N' p hp').2⟩) hD hi
  rcases List.mem_cons.mp hp' with rfl | hp'
  · exact hCD.symm
  · exact hCn p hp'

theorem lc_multi_assign {l : Addr} {ns : List Int} {y : Str} {py spos : Pos} {Q : Flow → Shared → Prop} (F : Fr g env.locals hp m) (N : News g env.locals hp news) (hl : ∃ its, hp.IsList l its)
    (hcs : ∃ c cs', cs = c :: cs') (hsw : swapsWith (.ListComp elt cs scope pos) (some (.Name y py)) spos.line env = pure true) (hclos : closureFor scope env = pure cl) (hnames : ∀ y ∈ scope.names, y.2 = .local → scope.names.lookup y.1 = some .local)
    (hcell : ∀ y ∈ scope.names, y.2 ≠ .cell) (hkind : scope.kind = .function) (hg : cs[0]? = some ⟨.Name x px, iter, [], 0⟩) (hB : ns.length ≤ 2 ^ 20)
    (hy : env.kindOf y = some .local) (hfun : env.scope.kind = .function)
    (hit : wpAny (model prog0 w) A (eval iter env) (fun xv s₁ => xv = .ref l ∧ ∃ tk', s₁ = ⟨hp, gens, drawn, tk', os⟩) E ⟨hp, gens, drawn, tk, os⟩)
    (hlvl : ∀ (C D : Addr), Lvl w A (.ListComp elt cs scope pos) 0 (compEnvC scope cl C env) hp C D l (fun _ => True) gens drawn os ns)
    (hQ : ∀ D h' tk' ys n, Fr g env.locals h' (upd m y (.ref D)) → News g env.locals h' ((D, listOf ys n) :: news) → (∀ p ∈ news, p.1 ≠ D) → IntsAre ys.toList ns → Q .next ⟨h', gens, drawn, tk', os⟩)
    (hs : ∀ x, foldedSetIterable iter env x = pure x) :
    wpAny (model prog0 w) A (exec (.Assign [.Name y py] (.ListComp elt cs scope pos) spos) env) Q E ⟨hp, gens, drawn, tk, os⟩ := by
  obtain ⟨c, cs', rfl⟩ := hcs
  obtain rfl : c = ⟨.Name x px, iter, [], 0⟩ := Option.some.inj hg
  rw [exec_Assign_Name_used _ _ _ _ hsw]
  refine wpAny_bind (wpAny_standAt (wpAny_bind ?_))
  show wpAny _ A (do let _ ← comprehension (.ListComp elt _ scope pos) scope env _ (newList []) false (eval iter env) (some (assign (.Name y py) env))) _ _ _
  refine wpAny_bind (wpAny_mono (wpAny_comprehension_free (use := some (assign (.Name y py) env)) (Q := fun _ s' => Q .next s') rfl hs hclos hkind hnames
    (comp_core (RR := fun acc C => compPost (model prog0 w) A E (some (assign (.Name y py) env)) (fun _ s' => Q .next s') acc C) F N hl hcell hkind hg hB hit hlvl ?_)) (fun _ s' hq => wpAny_pure (wpAny_pure hq)) fun _ _ e => e)
  intro C D h' tk' m' ys n F' N' hD hi hCD hCL hCn hgC hC
  show wpAny _ A (assign (.Name y py) env (.ref D)) _ _ _
  refine wpAny_assign_Name (wpAny_storeName_local hy F'.ns (fun h₂ hn₂ hs₂ => ?_) (by rw [hfun]; rfl))
  refine ⟨m', hC.sameBut hs₂ hCL, fun h'' hs'' => ?_⟩
  have F2 : Fr g env.locals h₂ (upd m y (.ref D)) := F'.set hn₂ hs₂
  have N2 : News g env.locals h₂ ((D, listOf ys n) :: news) := fun p hp' => ⟨(hs₂.2 _ (N' p hp').2.1).trans (N' p hp').1, (N' p hp').2⟩
  have hkk : ∀ b o, b ≠ C → h₂.get? b = some o → h''.get? b = some o := fun b o hb e => (hs''.2 b hb).trans e
  refine hQ D h'' _ ys n ⟨F2.ns.at' fun o e => hkk _ o hCL.symm e, fun b o e => hkk b o (fun q => by rw [q, hgC] at e; cases e) (F2.keep b o e), F2.above⟩ (fun p hp' => ⟨hkk _ _ ?_ (N2 p hp').1, (N2 p hp').2⟩) hD hi
  rcases List.mem_cons.mp hp' with rfl | hp'
  · exact hCD.symm
  · exact hCn p hp'
end
end Mine
end

section
open PySem PySem.W PySem.Calls PyProof.Rows
set_option Elab.async false
namespace Mine
set_option maxRecDepth 100000
set_option maxHeartbeats 4000000

/-- a list's items, by index -/
noncomputable def Row (Fv : Nat → Value → Prop) (n : Nat) (ys : Array Value) : Prop := ys.size = n ∧ ∀ (i : Nat) y, ys[i]? = some y → Fv i y

theorem paired_row {a c : Int} (hc : c ≠ 0) {Fv : Nat → Value → Prop} {n : Nat} {vs ys : List Value} (hlen : vs.length = n)
    (hP : ∀ (j : Nat) v, vs[j]? = some v → j < n ∧ ∃ t, v = .int (a + (j : Int) * c) t) (h : Paired (fun v y => ∀ (j : Nat) t, j < n → v = .int (a + (j : Int) * c) t → Fv j y) vs ys) : Row Fv n ys.toArray := by
  have hl := Paired.length h
  have key : ∀ {vs ys : List Value} (h : Paired (fun v y => ∀ (j : Nat) t, j < n → v = .int (a + (j : Int) * c) t → Fv j y) vs ys) (i : Nat) v y, vs[i]? = some v → ys[i]? = some y → ∀ (j : Nat) t, j < n → v = .int (a + (j : Int) * c) t → Fv j y := by
    intro vs ys h
    induction h with
    | nil => intro i v y e; cases e
    | cons h1 h2 ih =>
      intro i v y e1 e2
      cases i with
      | zero => cases e1; cases e2; exact h1
      | succ i => exact ih i v y (by simpa using e1) (by simpa using e2)
  refine ⟨by rw [List.size_toArray, ← hl, hlen], fun i y hy => ?_⟩
  have hy' : ys[i]? = some y := by simpa using hy
  have hi : i < vs.length := by rw [hl]; exact (List.getElem?_eq_some_iff.mp hy').1
  obtain ⟨h1, t, h2⟩ := hP i vs[i] (List.getElem?_eq_getElem hi)
  exact key h i vs[i] y (List.getElem?_eq_getElem hi) hy' i t h1 h2

section
variable {prog : Program} {w : World} {A : Around} {gens : Array GenState} {drawn : Drawn} {os : OsState} {tk : Nat} {E : Value → Shared → Prop}
  {g hp : Heap} {L : Addr} {m : Str → Option Value} {news : List (Addr × Obj)} {env : Env} {elt iter : Expr} {x : Str} {px : Pos} {scope : Scope} {cl : List (Str × Addr)} {pos : Pos}

/-- what range's iterable must give -/
noncomputable def RangeIt (hp : Heap) (gens : Array GenState) (drawn : Drawn) (os : OsState) (a c : Int) (n : Nat) (xv : Value) (s₁ : Shared) : Prop :=
  ∃ r b t u v h₁ tk', xv = .ref r ∧ s₁ = ⟨h₁, gens, drawn, tk', os⟩ ∧ IsRange h₁ r a b c t u v ∧ Builtin.Range.small a b c = true ∧ Builtin.Range.rangeSize a b c = (n : Int) ∧ (∀ b o, hp.get? b = some o → h₁.get? b = some o) ∧ @LE.le Nat _ hp.objs.size h₁.objs.size

theorem lc_range {a c : Int} (hc : c ≠ 0) {n : Nat} (Fv : Nat → Value → Prop) {Q : Value → Shared → Prop} (hh : A.handled = none) (F : Fr g L hp m) (N : News g L hp news) (hsz : n ≤ 2 ^ 20)
    (hclos : closureFor scope env = pure cl) (hcell : ∀ y ∈ scope.names, y.2 ≠ .cell) (hkind : scope.kind = .function)
    (hnames : ∀ y ∈ scope.names, y.2 = .local → scope.names.lookup y.1 = some .local) (hx : scope.names.lookup x = some .local)
    (hit : wpAny (model prog w) A (eval iter env) (RangeIt hp gens drawn os a c n) E ⟨hp, gens, drawn, tk, os⟩)
    (helt : ∀ (C : Addr) (i : Nat) (t : Tok) (s₃ : Shared) (m₃ : Str → Option Value), i < n → Fr hp C s₃.heap m₃ → m₃ x = some (.int (a + (i : Int) * c) t) →
      wpAny (model prog w) A (eval elt (compEnvC scope cl C env)) (fun y s₄ => Fv i y ∧ Keeps s₃ s₄) (fun _ _ => False) s₃)
    (hQ : ∀ D h' tk' ys k, Fr g L h' m → News g L h' ((D, listOf ys k) :: news) → (∀ p ∈ news, p.1 ≠ D) → Row Fv n ys → Q (.ref D) ⟨h', gens, drawn, tk', os⟩)
    (hs : ∀ x, foldedSetIterable iter env x = pure x) :
    wpAny (model prog w) A (eval (.ListComp elt [⟨.Name x px, iter, [], 0⟩] scope pos) env) Q E ⟨hp, gens, drawn, tk, os⟩ := by
  refine wpAny_ListComp_free (fun _ => true) (fun v y => ∀ (j : Nat) t, j < n → v = .int (a + (j : Int) * c) t → Fv j y) hclos hcell hkind hnames hx (wpAny_mono hit (fun xv s₁ h₁ => ?_) fun _ _ e => e) hs
  refine gen_goal fun GX hGX => ?_
  obtain ⟨r, b, t0, u0, v0, h₁, tk1, rfl, rfl, hr, hsmall, hn, hk1, h2⟩ := h₁
  refine hGX ?_
  clear hGX
  refine wpAny_pyIter_range hr hsmall ⟨h₁.objs.size, [h₁.objs.size], [h₁.objs.size], n, _, _, rfl, (Walks.range hh _ a c n).bound, by rw [sizeLine_eq]; omega, (by show IsRangeIter _ _ _ _ _; rw [hn]; simpa using Heap.get?_push_size _ rfl), ?_, ⟨?_, ?_⟩, ?_⟩
  · intro b hb
    show b < (h₁.push _).objs.size
    rw [Heap.size_push]
    rcases List.mem_cons.mp hb with rfl | hb
    · exact Nat.lt_succ_self _
    · cases hb
  · intro C i v s₃ m₃ E' _ _ _ _ _ _
    exact wpAny_pure ⟨rfl, s₃.heap, s₃.toks, rfl, fun _ _ e => e⟩
  · intro C i v s₃ m₃ E' hC hP _ hn' hm hk _
    obtain ⟨hi, t, rfl⟩ := hP
    have F3 : Fr hp C s₃.heap m₃ := ⟨hn', fun b o e => hk b o (fun hm => by rcases List.mem_cons.mp hm with rfl | hm; exact Nat.lt_irrefl _ (Heap.lt_size (hk1 _ _ e)); cases hm) (Heap.get?_push_of_some _ (hk1 _ _ e)), by
      have h1 : h₁.objs.size + 1 ≤ C := by rw [Heap.size_push] at hC; exact hC
      exact Nat.le_trans h2 (Nat.le_of_succ_le h1)⟩
    refine wpAny_mono (helt C i t s₃ m₃ hi F3 hm) (fun y s₄ h₄ => ⟨fun j t' hj e => ?_, h₄.2⟩) fun _ _ e => e.elim
    have e2 : a + (i : Int) * c = a + (j : Int) * c := (Value.int.inj e).1
    have e3 : (i : Int) * c = (j : Int) * c := by omega
    have e4 : (i : Int) = j := Int.eq_of_mul_eq_mul_right hc e3
    obtain rfl : i = j := by omega
    exact h₄.1
  · intro D h' tk' ys vs hD _ hpl hlen hP hF hk
    dsimp only at hD
    have hk' : ∀ b o, hp.get? b = some o → h'.get? b = some o := fun b o e => hk b o (fun hm => by rcases List.mem_cons.mp hm with rfl | hm; exact Nat.lt_irrefl _ (Heap.lt_size (hk1 _ _ e)); cases hm) (Heap.get?_push_of_some _ (hk1 _ _ e))
    obtain ⟨k, hk2⟩ := hpl
    have hDn : ∀ b o, hp.get? b = some o → b ≠ D := fun b' o e q => by
      have e2 : (h₁.push { cls := .type "range_iterator", data := .fields #[rawInt a, rawInt (Builtin.Range.rangeSize a b c), rawInt c] }).get? b' = some o := Heap.get?_push_of_some _ (hk1 _ _ e)
      subst q
      rw [hD] at e2
      cases e2
    rw [List.filter_eq_self.mpr (fun _ _ => rfl)] at hF
    have hrow := paired_row hc hlen (fun j v e => hP j v e) hF
    rw [Array.toArray_toList] at hrow
    refine hQ D h' tk' ys k (Fr.keepsAll F hk') (fun p hp' => ?_) (fun p hp' => hDn p.1 p.2 (N p hp').1) hrow
    rcases List.mem_cons.mp hp' with rfl | hp'
    · obtain ⟨oL, _, _, hL, _⟩ := F.ns
      refine ⟨hk2, fun q => hDn L oL hL q.symm, ?_⟩
      cases q : g.get? D with
      | none => rfl
      | some o => exact absurd rfl (hDn D o (F.keep _ _ q))
    · exact ⟨hk' _ _ (N p hp').1, (N p hp').2⟩
end
end Mine
end

section
open PySem PySem.W PySem.Calls PyProof.Rows
set_option Elab.async false
namespace Mine
set_option maxRecDepth 100000
set_option maxHeartbeats 4000000

section
variable {w : World} {A : Around} {s : Shared} {lo : List Str} {mean : ExcName → Option Value} {mg mb : Str → Option Value}
/-- a call of a def with cells -/
theorem enterC {R : Result → Shared → Prop} {name : Str} {params : Arguments} {body : List Stmt} {scope : Scope} {doc pm cdv : Value} {o : Obj} {f : Addr} {args : List Value} {binds : List (Str × Value)}
    (G : Gd w lo mean mg mb s.heap) {k : Nat} (hA : Amb A (k + 1))
    (ho : (hd.heap_39 w.params).lookup f = some o) (hdata : o.data = .func (Calls.docDef name params body scope pm cdv doc)) (hcd : codeIn (hd.heap_39 w.params) cdv name = true)
    (hbind : bindArgs (Calls.docDef name params body scope pm cdv doc) ⟨args, []⟩ = pure binds)
    (hkind : ∀ L : Nat, ∀ x ∈ binds, scope.names.lookup x.1 = some .local ∨ (scope.names.lookup x.1 = some .cell ∧ ((cellsFrom (L + 1) scope.names []).lookup x.1).isSome = true))
    (hnd : ((cellsFrom 0 scope.names []).map (·.1)).Nodup) (hco : scope.isCoroutine = false) (hgen : scope.isGenerator = false) (hk : scope.kind = .function)
    (h : ∀ (L : Nat) h₁ tk cells, Fr s.heap L h₁ (bindL (envX name scope L f cdv (cellsFrom (L + 1) scope.names [])).kindOf binds fun _ => none) → News s.heap L h₁ cells →
      CellsAre (bindC (envX name scope L f cdv (cellsFrom (L + 1) scope.names [])).kindOf binds fun _ => none) (cellsFrom (L + 1) scope.names []) cells → Amb (A.deeper (envX name scope L f cdv (cellsFrom (L + 1) scope.names []))) k →
      wpAny (model prog0 w) (A.deeper (envX name scope L f cdv (cellsFrom (L + 1) scope.names []))) (execs body (envX name scope L f cdv (cellsFrom (L + 1) scope.names [])))
        (fun fl s' => R (.ok (.ret (match fl with | .ret v => v | _ => .none))) s') (fun _ _ => False) { s with heap := h₁, toks := tk }) :
    codeAny (model prog0 w) A (.call (.ref f) ⟨args, []⟩) R s :=
  call_cellsN_ret hA.room (G.X _ _ ho) hdata G.T.nolimit (codeRec_of G.X hcd) hbind (hkind _) hnd (fun h₁ tk cells F N X => h _ h₁ tk cells F N X (hA.deeper _)) hco hgen hk
end

theorem CellsAre.uncons {cm : Str → Option Value} {n : Str} {c : Addr} {cs : List (Str × Addr)} {cells : List (Addr × Obj)} (x : CellsAre cm ((n, c) :: cs) cells) :
    ∃ o r, cells = (c, o) :: r ∧ o.data = .cell (cm n) ∧ CellsAre cm cs r := by
  cases x with | cons h r => exact ⟨_, _, rfl, h, r⟩
theorem CellsAre.unnil {cm : Str → Option Value} {cells : List (Addr × Obj)} (x : CellsAre cm [] cells) : cells = [] := by
  cases x; rfl

section
variable {M : Model} {A : Around} {E : Value → Shared → Prop} {s : Shared}
theorem newEnv_cells {scope : Scope} {globals : Addr} {cl : List (Str × Addr)} {qual : Str} {around : Env} {builtins : Addr} {Q : Env → Shared → Prop}
    (hQ : ∀ h', h'.Ns s.heap.objs.size (fun _ => none) → h' = pushCells (s.heap.push { cls := .type "dict", data := .dict #[] }) scope.names →
      Q { scope, locals := s.heap.objs.size, globals, cells := cellsFrom (s.heap.objs.size + 1) scope.names cl, qual, func := none, code := around.code, frame := around.frame, builtins := around.builtins } { s with heap := h' }) :
    wpAny M A (newFunctionEnv scope globals cl [] qual none .none (some around) builtins) Q E s := by
  simp only [newFunctionEnv, Option.isSome_some, if_true]
  refine wpAny_bind (wpAny_alloc ?_)
  refine wpAny_bind (wpAny_layCells _ (fun name kind cells => by cases hkc : kind == NameKind.cell <;> simp [hkc]) _ _ _ _ ?_)
  refine wpAny_bind (wpAny_pure (wpAny_pure ?_))
  rw [show ({ s with heap := s.heap.push { cls := .type "dict", data := .dict #[] } } : Shared).heap.objs.size = s.heap.objs.size + 1 from Heap.size_push ..]
  exact hQ _ ((Heap.Ns.new s.heap (.type "dict")).keeps (pushCells_keeps _ _)) rfl
end

section
variable {w : World} {A : Around} {gens : Array GenState} {drawn : Drawn} {os : OsState} {tk : Nat} {E : Value → Shared → Prop}
  {g hp : Heap} {L : Addr} {m : Str → Option Value} {env : Env} {elt iter : Expr} {x : Str} {px : Pos} {scope : Scope} {cl : List (Str × Addr)} {pos : Pos}

theorem cell_ne {C D S : Nat} (hC : C = S + 2) (hD : D = S + 1) : @Ne Nat D S ∧ @Ne Nat D C ∧ @Ne Nat D (C + 1) ∧ @Ne Nat S C ∧ @Ne Nat S (C + 1) ∧ @Ne Nat (C + 1) C ∧ S ≤ D ∧ S ≤ C + 1 := by
  subst hC hD
  exact ⟨Nat.ne_of_gt (Nat.lt_succ_self _), Nat.ne_of_lt (Nat.lt_succ_self _), Nat.ne_of_lt (Nat.lt_add_of_pos_right (k := 2) (by decide)), Nat.ne_of_lt (Nat.lt_add_of_pos_right (by decide)), Nat.ne_of_lt (Nat.lt_add_of_pos_right (k := 3) (by decide)), Nat.ne_of_gt (Nat.lt_succ_self _), Nat.le_add_right _ _, Nat.le_add_right _ 3⟩

/-- a comprehension over range(n) whose target is a cell, of rows of texts -/
theorem lc_cell {n : Nat} {texts : Nat → List Str} {Q : Value → Shared → Prop} (hh : A.handled = none) (hsz : n ≤ 2 ^ 20)
    (hclos : closureFor scope env = pure cl) (hnm : scope.names = [(Str.ofString ".0", .local), (x, .cell), (Str.ofString "places", .free)]) (hkind : scope.kind = .function) (hnames : ∀ y ∈ scope.names, y.2 = .local → scope.names.lookup y.1 = some .local)
    (hxk : ∀ C T, (compEnvC scope ((x, T) :: cl) C env).kindOf x = some .cell)
    (hit : wpAny (model prog0 w) A (eval iter env) (RangeIt hp gens drawn os 0 1 n) E ⟨hp, gens, drawn, tk, os⟩)
    (helt : ∀ (C T : Addr) (i : Nat) (t : Tok) (s₃ : Shared), i < n → Fr hp C s₃.heap (fun _ => none) → s₃.heap.IsCell T (some (.int (i : Int) t)) →
      wpAny (model prog0 w) A (eval elt (compEnvC scope ((x, T) :: cl) C env)) (fun y s₄ => Keeps s₃ s₄ ∧ ∃ new, Made s₃ s₄ new ∧ TextsIn new y (texts i)) (fun _ _ => False) s₃)
    (hQ : ∀ D h' tk' items k made, (∀ b o, hp.get? b = some o → h'.get? b = some o) → (∀ p ∈ (D, listOf items k) :: made, h'.get? p.1 = some p.2 ∧ hp.get? p.1 = none) → items.size = n → (∀ t (h : t < items.size), TextsIn made items[t] (texts t)) → Q (.ref D) ⟨h', gens, drawn, tk', os⟩)
    (hs : ∀ x, foldedSetIterable iter env x = pure x) :
    wpAny (model prog0 w) A (eval (.ListComp elt [⟨.Name x px, iter, [], 0⟩] scope pos) env) Q E ⟨hp, gens, drawn, tk, os⟩ := by
  rw [eval_ListComp]
  refine wpAny_comprehension_free (use := none) rfl hs hclos hkind hnames ?_
  refine wpAny_mono hit (fun xv s₁ h₁ => ?_) fun _ _ e => e
  refine gen_goal fun GX hGX => ?_
  obtain ⟨r, b, t0, u0, v0, h₁, tk1, rfl, rfl, hr, hsmall, hn, hk1, hle⟩ := h₁
  refine hGX ?_
  clear hGX
  refine wpAny_pyIter_range hr hsmall ?_
  dsimp only
  have hII : IsRangeIter (h₁.push { cls := .type "range_iterator", data := .fields #[rawInt 0, rawInt (Builtin.Range.rangeSize 0 b 1), rawInt 1] }) h₁.objs.size 0 (n : Int) 1 := by rw [hn]; exact Heap.get?_push_size _ rfl
  generalize hH1 : h₁.push { cls := .type "range_iterator", data := .fields #[rawInt 0, rawInt (Builtin.Range.rangeSize 0 b 1), rawInt 1] } = H1 at hII ⊢
  have hk1' : ∀ b o, hp.get? b = some o → H1.get? b = some o := fun b o e => hH1 ▸ Heap.get?_push_of_some _ (hk1 _ _ e)
  have hs1 : H1.objs.size = h₁.objs.size + 1 := by rw [← hH1, Heap.size_push]
  refine wpAny_newObj_type (newEnv_cells fun h₂ hns hh2 => ?_)
  dsimp only at hns hh2 ⊢
  rw [hnm] at hh2
  generalize hH2 : H1.push { cls := .type "list", dict := none, data := .seq ([] : List Value).toArray } = H2 at hns hh2 ⊢
  have hs2 : H2.objs.size = h₁.objs.size + 2 := by rw [← hH2, Heap.size_push, hs1]
  have hD2 : H2.get? H1.objs.size = some (listOf #[] 0) := by rw [← hH2]; exact Heap.get?_push_size _ rfl
  have hk2 : ∀ b o, H1.get? b = some o → H2.get? b = some o := fun b o e => hH2 ▸ Heap.get?_push_of_some _ e
  obtain rfl : h₂ = (H2.push { cls := .type "dict", data := .dict #[] }).push { cls := .type "cell", data := .cell none } := hh2
  have hs3 : (H2.push { cls := .type "dict", data := .dict #[] }).objs.size = H2.objs.size + 1 := Heap.size_push ..
  have hcells : cellsFrom (H2.objs.size + 1) scope.names cl = (x, H2.objs.size + 1) :: cl := by rw [hnm]; rfl
  rw [hcells]
  have hT : ((H2.push { cls := .type "dict", data := .dict #[] }).push { cls := .type "cell", data := .cell none }).get? (H2.objs.size + 1) = some { cls := .type "cell", data := .cell none } := by
    rw [← hs3]; exact Heap.get?_push_size _ rfl
  have hk3 : ∀ b o, H2.get? b = some o → ((H2.push { cls := .type "dict", data := .dict #[] }).push { cls := .type "cell", data := .cell none }).get? b = some o := fun b o e => Heap.get?_push_of_some _ (Heap.get?_push_of_some _ e)
  generalize hH3 : (H2.push { cls := .type "dict", data := .dict #[] }).push { cls := .type "cell", data := .cell none } = H3 at hns hT hk3 ⊢
  have eC : H2.objs.size = h₁.objs.size + 2 := hs2
  have eD : H1.objs.size = h₁.objs.size + 1 := hs1
  generalize hCn : H2.objs.size = C at *
  generalize hDn : H1.objs.size = D at *
  have fresh : ∀ a, @LE.le Nat _ h₁.objs.size a → hp.get? a = none := fun a ha => by
    cases e : hp.get? a with
    | none => rfl
    | some o' => exact absurd (Heap.lt_size (hk1 _ _ e)) (Nat.not_lt.mpr ha)
  obtain ⟨nDI, nDC, nDT, nIC, nIT, nTC, lD, lT⟩ := cell_ne eC eD
  have F0 : Fr hp C H3 (fun _ => none) := ⟨hns, fun b o e => hk3 _ _ (hk2 _ _ (hk1' _ _ e)), by rw [eC]; exact Nat.le_trans hle (Nat.le_add_right _ _)⟩
  have N0 : News hp C H3 ((h₁.objs.size, { cls := .type "range_iterator", dict := none, data := .fields #[rawInt (0 + (0 : Nat) * 1), rawInt ((n : Int) - (0 : Nat)), rawInt 1], slots := #[] }) :: (D, listOf #[] 0) :: (C + 1, { cls := .type "cell", data := .cell none }) :: []) := by
    intro p hp'
    simp only [List.mem_cons, List.not_mem_nil, or_false] at hp'
    rcases hp' with rfl | rfl | rfl
    · refine ⟨?_, nIC, fresh _ (Nat.le_refl _)⟩
      have := hk3 _ _ (hk2 _ _ hII)
      simpa using this
    · exact ⟨hk3 _ _ hD2, nDC, fresh _ lD⟩
    · exact ⟨hT, nTC, fresh _ lT⟩
  generalize hI : h₁.objs.size = I at *
  clear hI hDn hCn hH3 hcells hs3 hk3 hD2 hII hT hns hk2 hH2 hH1 hs2 hs1 hk1'
  show codeAny _ _ (.compStart _ 0 (.ref I) (.ref D) (compEnvC scope ((x, C + 1) :: cl) C env)) (compPost (model prog0 w) A E none Q (.ref D) C) _
  have key : ∀ tk, codeAny (model prog0 w) A (.compLoop (.ListComp elt [⟨.Name x px, iter, [], 0⟩] scope pos) 0 (.ref I) (.ref D) (compEnvC scope ((x, C + 1) :: cl) C env)) (compPost (model prog0 w) A E none Q (.ref D) C) ⟨H3, gens, drawn, tk, os⟩ := by
    intro tk
    refine compLoop_at (d := 0) (fun j s' => ∃ (i : Nat) (h' : Heap) (tk' : Nat) (items : Array Value) (k : Nat) (cv : Option Value) (co : Obj) (made : List (Addr × Obj)), s' = ⟨h', gens, drawn, tk', os⟩ ∧ j = n - i ∧ i ≤ n ∧ Fr hp C h' (fun _ => none) ∧
      News hp C h' ((I, { cls := .type "range_iterator", dict := none, data := .fields #[rawInt (0 + (i : Nat) * 1), rawInt ((n : Int) - (i : Nat)), rawInt 1], slots := #[] }) :: (D, listOf items k) :: (C + 1, co) :: made) ∧ co.data = .cell cv ∧
      (∀ p ∈ made, p.1 ≠ I ∧ p.1 ≠ D ∧ p.1 ≠ C + 1) ∧ items.size = i ∧ (∀ t (h : t < items.size), TextsIn made items[t] (texts t))) (compTurn_last rfl rfl) ?_ n ⟨0, H3, tk, #[], 0, none, _, [], rfl, rfl, Nat.zero_le _, F0, N0, rfl, (fun p hp' => by cases hp'), rfl, fun t ht => absurd ht (Nat.not_lt_zero _)⟩
    rintro j s' hpk1
    refine gen_goal fun GX hGX => ?_
    obtain ⟨i, h', tk', items, k, cv, co, made, rfl, rfl, hi, F, N, hco, hmd, hisz, hrows⟩ := hpk1
    refine hGX ?_
    clear hGX
    have hit : IsRangeIter h' I (0 + (i : Nat) * 1) ((n : Int) - (i : Nat)) 1 := (N _ (.head _)).1
    by_cases hlt : i < n
    · refine wpAny_pyNext_range_item hit (it_d hlt) fun h1 hit1 hs1 => ?_
      have hk1 : ∀ b o, b ≠ I → h'.get? b = some o → h1.get? b = some o := fun b o hb e => (hs1.2 b hb).trans e
      have F1 := Fr.iter F N hk1
      have N1 := News.iter N (fun p hp' => by
        rcases List.mem_cons.mp hp' with rfl | hp'
        · exact nDI
        · rcases List.mem_cons.mp hp' with rfl | hp'
          · exact nIT.symm
          · exact (hmd p hp').1) hk1 hit1
      have hT1 := (N1 _ (.tail _ (.tail _ (.head _)))).1
      refine wpAny_assign_Name (wpAny_storeName_cell (c := C + 1) hkind (hxk _ _) (by show List.lookup x ((x, C + 1) :: cl) = _; simp [List.lookup_cons]) ⟨co, hT1, hco⟩ fun h2 hc2 hs2 => ?_)
      refine gen_goal fun GX hGX => ?_
      obtain ⟨co2, hT2, hco2⟩ := id hc2
      refine hGX ?_
      clear hGX
      have hk2 : ∀ b o, b ≠ C + 1 → h1.get? b = some o → h2.get? b = some o := fun b o hb e => (hs2.2 b hb).trans e
      have F2 : Fr hp C h2 (fun _ => none) := ⟨F1.ns.at' fun o e => hk2 _ o nTC.symm e, fun b o e => hk2 b o (fun q => by rw [q, (N1 _ (.tail _ (.tail _ (.head _)))).2.2] at e; cases e) (F1.keep b o e), F1.above⟩
      rw [it_c i] at hc2
      have N2 : ∀ p ∈ (I, ({ cls := .type "range_iterator", dict := none, data := .fields #[rawInt (0 + (i : Nat) * 1 + 1), rawInt ((n : Int) - (i : Nat) - 1), rawInt 1], slots := #[] } : Obj)) :: (D, listOf items k) :: (C + 1, co2) :: made, h2.get? p.1 = some p.2 ∧ p.1 ≠ C ∧ hp.get? p.1 = none := by
        intro p hp'
        rcases List.mem_cons.mp hp' with rfl | hp'
        · exact ⟨hk2 _ _ nIT (N1 _ (.head _)).1, (N1 _ (.head _)).2⟩
        · rcases List.mem_cons.mp hp' with rfl | hp'
          · exact ⟨hk2 _ _ nDT (N1 _ (.tail _ (.head _))).1, (N1 _ (.tail _ (.head _))).2⟩
          · rcases List.mem_cons.mp hp' with rfl | hp'
            · exact ⟨hT2, (N1 _ (.tail _ (.tail _ (.head _)))).2⟩
            · exact ⟨hk2 _ _ (hmd p hp').2.2 (N1 p (.tail _ (.tail _ (.tail _ hp')))).1, (N1 p (.tail _ (.tail _ (.tail _ hp')))).2⟩
      refine wpAny_bind (wpAny_mono (helt C (C + 1) i _ _ hlt F2 hc2) (fun y s3 h3 => ?_) fun _ _ e => e.elim)
      refine gen_goal fun GX hGX => ?_
      obtain ⟨⟨h3, tk3, rfl, hk3⟩, new, hmade, htx⟩ := h3
      refine hGX ?_
      clear hGX
      dsimp only at hk3 hmade
      have ltD : hp.get? D = none := (N2 _ (.tail _ (.head _))).2.2
      have hDold := hk3 _ _ (N2 _ (.tail _ (.head _))).1
      refine wpAny_bind (wpAny_list_append_plain (hsz := ?hz) ⟨k, hDold⟩ fun h4 hl4 hs4 => wpAny_pure ?_)
      case hz => rw [sizeLine_eq, hisz]; exact Nat.le_trans (Nat.le_of_lt (Nat.lt_of_lt_of_le hlt (by assumption))) (by decide)
      obtain ⟨k4, hk4⟩ := hl4
      have hk4' : ∀ b o, b ≠ D → h3.get? b = some o → h4.get? b = some o := fun b o hb e => (hs4.2 b hb).trans e
      have hnew : ∀ p ∈ new, p.1 ≠ I ∧ p.1 ≠ D ∧ p.1 ≠ C + 1 ∧ p.1 ≠ C ∧ hp.get? p.1 = none := fun p hp' => by
        have hn := (hmade p hp').2
        obtain ⟨oC, _, _, hC, _⟩ := F2.ns
        refine ⟨fun q => ?_, fun q => ?_, fun q => ?_, fun q => ?_, ?_⟩
        · rw [q, (N2 _ (.head _)).1] at hn; cases hn
        · rw [q, (N2 _ (.tail _ (.head _))).1] at hn; cases hn
        · rw [q, hT2] at hn; cases hn
        · rw [q, hC] at hn; cases hn
        · cases e : hp.get? p.1 with
          | none => rfl
          | some o => rw [F2.keep _ _ e] at hn; cases hn
      refine ⟨n - (i + 1), sub_step (by assumption), i + 1, h4, tk3, items.push y, k4, _, co2, new ++ made, rfl, rfl, hlt, ⟨F2.ns.at' fun o e => hk4' _ o nDC.symm (hk3 _ _ e), fun b o e => hk4' b o (fun q => by rw [q, ltD] at e; cases e) (hk3 _ _ (F2.keep b o e)), F2.above⟩, ?_, hco2, ?_, by rw [Array.size_push, hisz], ?_⟩
      · have e1 := it_a i
        have e2 := it_b n i
        rw [e1, e2]
        intro p hp'
        rcases List.mem_cons.mp hp' with rfl | hp'
        · exact ⟨hk4' _ _ nDI.symm (hk3 _ _ (N2 _ (.head _)).1), (N2 _ (.head _)).2⟩
        · rcases List.mem_cons.mp hp' with rfl | hp'
          · exact ⟨hk4, (N2 _ (.tail _ (.head _))).2⟩
          · rcases List.mem_cons.mp hp' with rfl | hp'
            · exact ⟨hk4' _ _ nDT.symm (hk3 _ _ hT2), (N2 _ (.tail _ (.tail _ (.head _)))).2⟩
            · rcases List.mem_append.mp hp' with hp' | hp'
              · have hq := hnew p hp'
                exact ⟨hk4' _ _ hq.2.1 (hmade p hp').1, hq.2.2.2.1, hq.2.2.2.2⟩
              · exact ⟨hk4' _ _ (hmd p hp').2.1 (hk3 _ _ (N2 p (.tail _ (.tail _ (.tail _ hp')))).1), (N2 p (.tail _ (.tail _ (.tail _ hp')))).2⟩
      · intro p hp'
        rcases List.mem_append.mp hp' with hp' | hp'
        · have hq := hnew p hp'; exact ⟨hq.1, hq.2.1, hq.2.2.1⟩
        · exact hmd p hp'
      · intro t ht
        rw [Array.getElem_push]
        split
        · rename_i h9; exact (hrows t h9).more fun p hp' => List.mem_append_right _ hp'
        · have : t = i := by rw [Array.size_push] at ht; rename ¬ t < items.size => h9; exact Nat.le_antisymm (hisz ▸ Nat.le_of_lt_succ ht) (hisz ▸ Nat.le_of_not_lt h9)
          subst this
          exact htx.more fun p hp' => List.mem_append_left _ hp'
    · have hie : i = n := Nat.le_antisymm hi (Nat.le_of_not_lt hlt)
      subst hie
      refine wpAny_pyNext_range_end hh hit (it_e _) fun h1 he1 => ?_
      have hk1 : ∀ b o, b ≠ I → h'.get? b = some o → h1.get? b = some o := fun b o hb e => he1 b o hb e
      refine ⟨_, F.ns.at' fun o e => hk1 _ o nIC.symm e, fun h2 hs2 => ?_⟩
      have hk2 : ∀ b o, b ≠ C → h1.get? b = some o → h2.get? b = some o := fun b o hb e => (hs2.2 b hb).trans e
      have hCn : hp.get? C = none := by
        cases e : hp.get? C with
        | none => rfl
        | some o => exact absurd (Heap.lt_size e) (Nat.not_lt.mpr F.above)
      refine hQ D h2 _ items k made (fun b o e => hk2 b o (fun q => by rw [q, hCn] at e; cases e) (hk1 b o (fun q => by rw [q, (N _ (.head _)).2.2] at e; cases e) (F.keep b o e))) (fun p hp' => ?_) hisz hrows
      rcases List.mem_cons.mp hp' with rfl | hp'
      · exact ⟨hk2 _ _ nDC (hk1 _ _ nDI (N _ (.tail _ (.head _))).1), (N _ (.tail _ (.head _))).2.2⟩
      · have := N p (.tail _ (.tail _ (.tail _ hp')))
        exact ⟨hk2 _ _ this.2.1 (hk1 _ _ (hmd p hp').1 this.1), this.2.2⟩
  refine compStart_at (d := 0) rfl (key _) (wpAny_pyIter_rangeiter (x := 0) (left := n) (step := 1) ?_ (key _))
  have := (N0 _ (.head _)).1
  simpa using this
end
end Mine
end

section
open PySem PySem.W PySem.Calls PyProof.Rows
set_option Elab.async false
namespace Mine
set_option maxRecDepth 100000
set_option maxHeartbeats 8000000

theorem fill5 (h : PySem.Challenge.rw_ta0035_01.about = [] → hd.heap_39 = hd.heap_39) : (PySem.Challenge.rw_ta0035_01.about = [] → hd.heap_39 = hd.heap_39) := by
  k_fill
  exact h

section
variable {w : World} {A : Around} {s : Shared} {lo : List Str} {mean : ExcName → Option Value} {mg mb : Str → Option Value}
local macro_rules | `(tactic| walk_at "eval Name") => `(tactic| (k_here; (with_reducible show wpAny _ _ (eval _ (compEnvC _ _ _ _)) _ _ _); k_dflt (refine' nameQ_C ?k1 ?k2 ?_ ?k3 ?k4 ?k5; (case k1 => exact rfl); (case k2 => assumption); (case k3 => exact rfl); (case k4 => exact rfl); (case k5 => decide); k_whole)))

set_option pp.deepTerms false in
theorem rows_ok (G : Gd w lo mean mg mb s.heap) (hA : Amb A 20) {l : Addr} {vs : List Value} {ns : List Int} (hl : s.heap.IsList l vs.toArray) (hi : IntsAre vs ns) (hn : ns.length ≤ 64) {k : Int} {tk0 : Tok} (hk0 : 0 ≤ k) (hk1 : k ≤ 40)
    (hb : ∀ n ∈ ns, 1 ≤ n ∧ n ≤ 40)
    {Q : Value → Shared → Prop} {E : Value → Shared → Prop} (hQ : ∀ a items n rest s', Keeps s s' → Made s s' ((a, listOf items n) :: rest) → items.size = k.toNat + 1 → HandsIn rest items ns → Q (.ref a) s') :
    wpAny (model prog0 w) A (call (.ref 137) [.ref l, .int k tk0]) Q E s := by
  refine wpAny_call ?_
  have KX := G.X
  have hb0 : ∀ n ∈ ns, 0 ≤ n := fun n h => by have := hb n h; omega
  refine' enterC (k := 19) (binds := [(Str.ofString "places", .ref l), (Str.ofString "times", .int k tk0)]) G hA ?k6 ?k7 ?k9 ?kB ?c2 ?c3 ?c4 ?c5 ?c6 ?_
  (case k6 => k_is); (case k7 => exact rfl);  (case k9 => k_is); (case kB => exact rfl); (case c2 => intro L; exact kinds_of (by kinds_ok)); (case c3 => decide); (case c4 => exact rfl); (case c5 => exact rfl); (case c6 => exact rfl)
  have T := G.T
  obtain ⟨hp, gens, drawn, toks, os⟩ := s
  dsimp only at *
  intro L h₁ tk cells F N X0 hA'
  obtain ⟨o1, r1, rfl, e1, X0⟩ := CellsAre.uncons X0
  have X0 := CellsAre.unnil X0
  subst X0
  clear X0
  have hP : h₁.IsCell (L + 1) (some (.ref l)) := ⟨o1, (N _ (.head _)).1, e1⟩
  clear e1
  w_top on
  k_steps
  refine Stop.out ?_
  refine lc_cell (n := k.toNat + 1) (texts := fun t => rowsAt ns t) hA'.hh (by omega) rfl rfl rfl (by decide) (fun C T => rfl) ?_ ?_ ?_ (fun _ => rfl)
  · k_steps
    refine Stop.out ?_
    refine call_range_1 ?_
    refine ⟨_, _, _, _, _, _, _, rfl, rfl, Heap.get?_push_size _ rfl, small_one (by decide) (by decide) (by omega) (by omega), ?_, fun b o e => Heap.get?_push_of_some _ e, by rw [Heap.size_push]; exact Nat.le_succ _⟩
    rw [rangeSize_one]; split <;> omega
  · intro C T i t s₃ hi' F3 hT
    obtain ⟨h3, gens3, drawn3, toks3, os3⟩ := s₃
    dsimp only at *
    have N3 : News h₁ C h3 [] := News.nil
    have hP3 := hP.keeps F3.keep
    k_steps
    refine Stop.out ?_
    refine lc_list0 (fun v y => ∃ d t t', v = .int d t ∧ y = .str (row (d + (i : Int))) t') hA'.hh F3 N3 (IsList.keepsAll hl fun b o e => F3.keep _ _ (F.keep _ _ e)) ?_ rfl (by decide) rfl (by decide) rfl ?_ ?_ ?_ (fun _ => rfl)
    · have := IntsAre.length hi
      rw [List.size_toArray, this]; omega
    · exact nameQ_C rfl hP3 ⟨rfl, _, rfl⟩ rfl rfl (by decide)
    · intro C2 j v s₄ m₄ hv F4 hm
      have : ∃ d t, v = .int d t ∧ 1 ≤ d ∧ d ≤ 40 := by
        obtain ⟨d, t, e1, e2⟩ := ints_at hi (by simpa using hv)
        exact ⟨d, t, e1, hb d e2⟩
      obtain ⟨d, t', rfl, hd0, hd1⟩ := this
      obtain ⟨h4, gens4, drawn4, toks4, os4⟩ := s₄
      dsimp only at *
      have N4 : News h3 C2 h4 [] := News.nil
      have hT4 := hT.keeps F4.keep
      k_steps
      refine ⟨⟨d, _, _, rfl, by rw [txt_mul_dot (by omega)]⟩, h4, _, rfl, fun _ _ e => e⟩
    · intro D h' tk' ys n F4 N4 hne' hpd hk4 hD0
      obtain ⟨us, e1, e2⟩ := rows_paired hi (by simpa using hpd)
      have e3 : ys = (strValues us).toArray := by rw [← e1]
      subst e3
      have hD := N4 _ (.head _)
      refine ⟨⟨h', tk', rfl, hk4⟩, [(D, listOf (strValues us).toArray n)], ?_, D, us, n, rfl, .head _, e2⟩
      intro p hp'
      rcases List.mem_cons.mp hp' with rfl | hp'
      · exact ⟨hD.1, hD0⟩
      · cases hp'
  · intro D h' tk' items n made hk hm hsz hrows
    k_steps
    refine hQ D items n made _ ⟨h', _, rfl, fun b o e => hk _ _ (F.keep _ _ e)⟩ (fun p hp' => ⟨(hm p hp').1, ?_⟩) hsz hrows
    cases e : hp.get? p.1 with
    | none => rfl
    | some o => have := (hm p hp').2; rw [F.keep _ _ e] at this; cases this
end
end Mine
end
end

section
open PySem PySem.W PySem.Calls PyProof.Rows
set_option Elab.async false
namespace Mine
set_option maxRecDepth 100000
set_option maxHeartbeats 8000000

section
variable {w : World}

/-- a recursive def made in a call -/
theorem rec_rule {α : Type} {name qual : Str} {params : Arguments} {body : List Stmt} {scope : Scope} {cl : List (Str × Addr)} {doc pm ctv : Value} {c' f : Addr} {hb : Heap}
    (hfm : hb.get? f = some (fnMade name qual params body scope cl doc pm c' ctv)) (hcr : hb.CodeRec (.ref c') qual) (hnl : hb.NoLimit)
    (args : α → List Value) (binds : α → List (Str × Value)) (μ : α → Nat) (Pre : α → Shared → Prop) (Post : α → Shared → Value → Shared → Prop)
    (hbind : ∀ a s, BindsTo s (fnX name qual params body scope cl .none .none doc pm none (.ref c') ctv) ⟨args a, []⟩ (binds a)) (hloc : ∀ a, ∀ y ∈ binds a, scope.names.lookup y.1 = some .local)
    (hco : scope.isCoroutine = false) (hgen : scope.isGenerator = false) (hk : scope.kind = .function) (hcell : ∀ x ∈ scope.names, x.2 ≠ .cell)
    (hkeep : ∀ a s, Pre a s → (s.heap.get? f = some (fnMade name qual params body scope cl doc pm c' ctv) ∧ s.heap.CodeRec (.ref c') qual ∧ s.heap.NoLimit))
    (step : ∀ a s k (A : Around) L h₁ tk, Pre a s → Fr s.heap L h₁ (fun y => (binds a).reverse.lookup y) → Amb (A.deeper (envX qual scope L f (.ref c') cl)) k →
      (∀ b (A' : Around) s' (Q : Value → Shared → Prop), μ b < μ a → Amb A' k → Pre b s' → (∀ v s'', Post b s' v s'' → Q v s'') → wpAny (model prog0 w) A' (call (.ref f) (args b)) Q (fun _ _ => False) s') →
      wpAny (model prog0 w) (A.deeper (envX qual scope L f (.ref c') cl)) (execs body (envX qual scope L f (.ref c') cl)) (fun fl s' => Post a s (match fl with | .ret v => v | _ => .none) s') (fun _ _ => False) { s with heap := h₁, toks := tk }) :
    ∀ k a (A : Around) s (Q : Value → Shared → Prop) (E : Value → Shared → Prop), μ a ≤ k → Amb A (k + 1) → Pre a s → (∀ v s'', Post a s v s'' → Q v s'') → wpAny (model prog0 w) A (call (.ref f) (args a)) Q E s := by
  intro k
  induction k with
  | zero =>
    intro a A s Q E hμ hA hp hQ
    obtain ⟨h1, h2, h3⟩ := hkeep a s hp
    refine wpAny_call (codeAny_call_def (binds := binds a) hA.room h1 rfl h3 h2 rfl (hbind a s) hcell (hloc a) (fun h₀ hns hk => ?_) hco hgen hk)
    refine wpAny_mono (step a s 0 A _ h₀ _ hp ⟨hns, hk, Nat.le_refl _⟩ (hA.deeper _) (fun b A' s' Q' hb => absurd hb (by omega))) (fun fl s' h => hQ _ _ h) fun _ _ e => e.elim
  | succ k ih =>
    intro a A s Q E hμ hA hp hQ
    obtain ⟨h1, h2, h3⟩ := hkeep a s hp
    refine wpAny_call (codeAny_call_def (binds := binds a) hA.room h1 rfl h3 h2 rfl (hbind a s) hcell (hloc a) (fun h₀ hns hk => ?_) hco hgen hk)
    refine wpAny_mono (step a s (k + 1) A _ h₀ _ hp ⟨hns, hk, Nat.le_refl _⟩ (hA.deeper _) (fun b A' s' Q' hb hA' hpb hQ' => ih b A' s' Q' _ (by omega) hA' hpb hQ')) (fun fl s' h => hQ _ _ h) fun _ _ e => e.elim
end

section
variable {M : Model} {A : Around} {E : Value → Shared → Prop} {s : Shared} {h₀ : Heap} {L a c : Addr} {m : Str → Option Value} {cn : Str} {cs : Scope} {ccd : Value} {cl : List (Str × Addr)} {x : Str} {v : Value} {pos : Pos} {Q : Value → Shared → Prop}
theorem nameX_FB (F : Fr h₀ L s.heap m) (hc : cl.lookup x = some c) (hv : h₀.IsCell c (some v)) (h : Q v s)
    (hk : cs.kind = .function) (hx : (envX cn cs L a ccd cl).kindOf x = some .free) (hb : (x == ("__debug__" : Str)) = false) (hn : (x == ("__classdict__" : Str)) = false) :
    wpAny M A (eval (.Name x pos) (envX cn cs L a ccd cl)) Q E s := wpAny_Name (wpAny_loadName_free hk hx hc (hv.keeps F.keep) h hn) hb
end
theorem fnAt_fr {h₀ h : Heap} {L f : Addr} {m : Str → Option Value} (F : Fr h₀ L h m) (x : FnAt f h₀) : FnAt f h := let ⟨oc, od, fd, sl, e⟩ := x; ⟨oc, od, fd, sl, F.keep _ _ e⟩
theorem CellsAre.three {cm : Str → Option Value} {n0 n1 n2 : Str} {c0 c1 c2 : Addr} {cells : List (Addr × Obj)} {P : Prop} (X : CellsAre cm [(n0, c0), (n1, c1), (n2, c2)] cells)
    (h : ∀ o0 o1 o2 : Obj, cells = [(c0, o0), (c1, o1), (c2, o2)] → o0.data = .cell (cm n0) → o1.data = .cell (cm n1) → o2.data = .cell (cm n2) → P) : P := by
  obtain ⟨o0, r0, q0, e0, X1⟩ := CellsAre.uncons X
  obtain ⟨o1, r1, q1, e1, X2⟩ := CellsAre.uncons X1
  obtain ⟨o2, r2, q2, e2, X3⟩ := CellsAre.uncons X2
  exact h o0 o1 o2 (q0.trans (congrArg (List.cons _) (q1.trans (congrArg (List.cons _) (q2.trans (congrArg (List.cons _) (CellsAre.unnil X3))))))) e0 e1 e2
end Mine
end

section
open PySem PySem.W PySem.Calls PyProof.Rows
open Mine
local macro_rules | `(tactic| walk_at "eval Name") => `(tactic| (k_here; k_dflt (refine' nameX_FB ?k1 ?k2 ?k3 ?_ ?k4 ?k5 ?k6 ?k7; (case k1 => k_asm); (case k2 => exact rfl); (case k3 => assumption); (case k4 => exact rfl); (case k5 => exact rfl); (case k6 => decide); (case k7 => decide); k_whole)))
local macro_rules | `(tactic| walk_at "callWith ref") => `(tactic| (k_here; k_dflt (refine' callWith_F ?k1 ?_; (case k1 => exact fnAt_fr (by k_asm) (by assumption)); k_whole)))
local macro_rules | `(tactic| walk_at "FnAt") => `(tactic| (k_dflt (exact fnAt_fr (by k_asm) (by assumption))))

section
open PySem PySem.W PySem.Calls PyProof.Rows
set_option Elab.async false
namespace Mine
set_option maxRecDepth 100000
set_option maxHeartbeats 8000000

theorem fillD2 (h : PySem.Challenge.rw_ta0035_01.about = [] → hd.heap_39 = hd.heap_39) : (PySem.Challenge.rw_ta0035_01.about = [] → hd.heap_39 = hd.heap_39) := by
  k_fill
  exact h

/-- a maker's table: nothing made, or the one code -/
noncomputable def TabS (P : Addr) (line col : Int) (qual : Str) (h : Heap) : Prop :=
  ∃ ps, h.get? P = some (tabObj ps) ∧ (ps = #[] ∨ ∃ c', ps = #[rawInt line, rawInt col, .ref c'] ∧ h.CodeRec (.ref c') qual)

/-- all but the tables -/
noncomputable def KeepsBut (Ps : List Addr) (s s' : Shared) : Prop := ∃ h' tk, s' = { s with heap := h', toks := tk } ∧ ∀ b o, b ∉ Ps → s.heap.get? b = some o → h'.get? b = some o

theorem codeNe {P c' : Addr} {h : Heap} {ps : Array Value} {qual : Str} {a1 b1 : Int} (e : h.get? P = some (tabObj ps)) (hp : ps = #[] ∨ ∃ c, ps = #[rawInt a1, rawInt b1, .ref c]) (x : h.CodeRec (.ref c') qual) : c' ≠ P := by
  rintro rfl
  obtain ⟨c, o, vs, t, e1, e2, e3, e4⟩ := x
  cases e1
  rw [e] at e2
  cases e2
  cases e3
  rcases hp with rfl | ⟨c, rfl⟩
  · cases e4
  · cases e4

section
variable {h h₁ : Heap} {L P : Addr} {m : Str → Option Value} {news : List (Addr × Obj)}
theorem hide_keep {b : Addr} {o : Obj} (hb : b ≠ P) (e : h.get? b = some o) : (hideAll h [P]).get? b = some o := hideAll_get _ e fun q => by
  rcases List.mem_cons.mp q with q | q
  · exact hb q
  · cases q
theorem Fr.hide (F : Fr h L h₁ m) : Fr (hideAll h [P]) L h₁ m := ⟨F.ns, fun b o e => F.keep b o (of_hideAll _ e), Nat.le_trans (Nat.le_of_eq (hideAll_size _ _)) F.above⟩
theorem hide_none {b : Addr} (e : h.get? b = none) : (hideAll h [P]).get? b = none := by
  cases q : (hideAll h [P]).get? b with
  | none => rfl
  | some o => rw [of_hideAll _ q] at e; cases e
theorem News.hide (F : Fr h L h₁ m) (N : News h L h₁ news) {oP : Obj} (hP : h.get? P = some oP) : News (hideAll h [P]) L h₁ (news ++ [(P, oP)]) := fun p hp => by
  rcases List.mem_append.mp hp with hp | hp
  · exact ⟨(N p hp).1, (N p hp).2.1, hide_none (N p hp).2.2⟩
  · rcases List.mem_cons.mp hp with rfl | hp
    · exact ⟨F.keep _ _ hP, Nat.ne_of_lt (Nat.lt_of_lt_of_le (Heap.lt_size hP) F.above), hideAll_none _ (.head _)⟩
    · cases hp
end

theorem cell_of {h₀ h : Heap} {L c : Addr} {news : List (Addr × Obj)} {o : Obj} {v : Option Value} (N : News h₀ L h news) (e : o.data = .cell v) (hm : (c, o) ∈ news) : h.IsCell c v := ⟨o, (N _ hm).1, e⟩

/-- the value of digits -/
noncomputable def dv (n : Int) : List Int → Int
  | [] => 0
  | d :: r => d + 2 ^ n.toNat * dv n r

theorem dv_append (n : Int) (b : List Int) : ∀ a : List Int, dv n (a ++ b) = dv n a + 2 ^ (a.length * n.toNat) * dv n b
  | [] => by simp [dv]
  | d :: r => by
    rw [List.cons_append, dv, dv_append n b r, dv, List.length_cons, Nat.succ_mul, Nat.add_comm, Int.pow_add]
    grind

theorem dv_bound {n : Int} : ∀ {ds : List Int}, (∀ d ∈ ds, 0 ≤ d ∧ d < 2 ^ n.toNat) → 0 ≤ dv n ds ∧ dv n ds < 2 ^ (ds.length * n.toNat)
  | [], _ => by simp [dv]
  | d :: r, h => by
    have ih := dv_bound fun x hx => h x (.tail _ hx)
    have hd := h d (.head _)
    rw [dv, List.length_cons, Nat.succ_mul, Nat.add_comm, Int.pow_add]
    have hp : (0 : Int) < 2 ^ n.toNat := Int.pow_pos (by decide)
    constructor
    · have := Int.mul_nonneg (Int.le_of_lt hp) ih.1
      omega
    · have h1 : dv n r + 1 ≤ 2 ^ (r.length * n.toNat) := ih.2
      have h2 := Int.mul_le_mul_of_nonneg_left h1 (Int.le_of_lt hp)
      rw [Int.mul_add, Int.mul_one] at h2
      omega

theorem intBits_lt {a : Int} {k : Nat} (h0 : 0 ≤ a) (h : a < 2 ^ k) : Builtin.Int.intBits a ≤ k := by
  unfold Builtin.Int.intBits
  by_cases h1 : a = 0
  · rw [if_pos (by simpa using h1)]; exact Nat.zero_le _
  · rw [if_neg (by simpa using h1)]
    have h2 : a.natAbs < 2 ^ k := by
      have e1 : (a.natAbs : Int) = a := Int.natAbs_of_nonneg h0
      have e2 : ((2 ^ k : Nat) : Int) = (2 : Int) ^ k := by push_cast; rfl
      omega
    exact (Nat.log2_lt (by omega)).mpr h2

/-- a part of a list -/
noncomputable def slice (ds : List Int) (x y : Int) : List Int := (ds.drop x.toNat).take (y - x).toNat

theorem toNat_split {x z y : Int} (h1 : x ≤ z) (h2 : z ≤ y) : (z - x).toNat + (y - z).toNat = (y - x).toNat := by
  rw [← Int.toNat_add (Int.sub_nonneg_of_le h1) (Int.sub_nonneg_of_le h2)]
  congr 1
  omega

theorem toNat_at {x z : Int} (h0 : 0 ≤ x) (h1 : x ≤ z) : x.toNat + (z - x).toNat = z.toNat := by
  rw [← Int.toNat_add h0 (Int.sub_nonneg_of_le h1)]
  congr 1
  omega

theorem slice_split {ds : List Int} {x z y : Int} (h0 : 0 ≤ x) (h1 : x ≤ z) (h2 : z ≤ y) : slice ds x y = slice ds x z ++ slice ds z y := by
  unfold slice
  rw [← toNat_split h1 h2, List.take_add, List.drop_drop, toNat_at h0 h1]

theorem slice_len {ds : List Int} {x y : Int} (h0 : 0 ≤ x) (h1 : x ≤ y) (h2 : y ≤ ds.length) : (slice ds x y).length = (y - x).toNat := by
  unfold slice
  rw [List.length_take, List.length_drop]
  refine Nat.min_eq_left (Nat.le_sub_of_add_le ?_)
  rw [Nat.add_comm, toNat_at h0 h1]
  exact Int.toNat_le.mpr h2

theorem slice_one {ds : List Int} {x : Int} (h0 : 0 ≤ x) (h1 : x < ds.length) : slice ds x (x + 1) = [ds.getD x.toNat 0] := by
  unfold slice
  have e : (x + 1 - x).toNat = 1 := by omega
  have hlt : x.toNat < ds.length := by omega
  rw [e, List.drop_eq_getElem_cons hlt, List.take_succ_cons, List.take_zero]
  simp [hlt]

theorem slice_mem {ds : List Int} {x y d : Int} (h : d ∈ slice ds x y) : d ∈ ds := List.mem_of_mem_drop (List.mem_of_mem_take h)

theorem mid_fact {x y : Int} (h0 : 0 ≤ x) (h1 : x < y) (h2 : ¬ x + 1 = y) : x < (x + y).fdiv (2 ^ Int.toNat 1) ∧ (x + y).fdiv (2 ^ Int.toNat 1) < y := by
  have e : (2 : Int) ^ Int.toNat 1 = 2 := by decide
  rw [e, Int.fdiv_eq_ediv_of_nonneg _ (by decide)]
  omega

theorem dv_slice {n : Int} {ds : List Int} {x z y : Int} (hn : 0 ≤ n) (h0 : 0 ≤ x) (h1 : x ≤ z) (h2 : z ≤ y) (h3 : y ≤ ds.length) :
    dv n (slice ds z y) * 2 ^ ((z - x) * n).toNat + dv n (slice ds x z) = dv n (slice ds x y) := by
  rw [slice_split h0 h1 h2, dv_append, slice_len h0 h1 (by omega)]
  have e : ((z - x) * n).toNat = (z - x).toNat * n.toNat := Int.toNat_mul (by omega) hn
  rw [e]
  grind

theorem shift_fits {n : Int} {ds : List Int} {x z y : Int} (hn : 1 ≤ n ∧ n ≤ 64) (hlen : ds.length ≤ 64) (hds : ∀ d ∈ ds, 0 ≤ d ∧ d < 2 ^ n.toNat) (h0 : 0 ≤ x) (h1 : x ≤ z) (h2 : z ≤ y) (h3 : y ≤ ds.length) :
    0 ≤ (z - x) * n ∧ (Builtin.Int.intBits (dv n (slice ds z y)) : Int) + (z - x) * n ≤ 2 ^ 27 := by
  have hb := dv_bound (n := n) (ds := slice ds z y) fun d hd => hds d (slice_mem hd)
  have hl : (slice ds z y).length ≤ 64 := by rw [slice_len (by omega) h2 h3]; omega
  have hk := intBits_lt hb.1 hb.2
  have h4 : (slice ds z y).length * n.toNat ≤ 64 * 64 := Nat.mul_le_mul hl (by omega)
  have h5 : (z - x) * n ≤ 64 * 64 := Int.mul_le_mul (by omega) hn.2 (by omega) (by decide)
  have h6 : 0 ≤ (z - x) * n := Int.mul_nonneg (by omega) (by omega)
  refine ⟨h6, ?_⟩
  have h7 : (Builtin.Int.intBits (dv n (slice ds z y)) : Int) ≤ 64 * 64 := by exact_mod_cast Nat.le_trans hk h4
  omega

theorem slice_all {ds : List Int} : slice ds 0 ds.length = ds := by
  unfold slice
  simp

/-- the end of inner -/
noncomputable def DEnd (n : Int) (ds : List Int) (a : Int × Int × Tok × Tok) (s : Shared) (v : Value) (s' : Shared) : Prop := Keeps s s' ∧ ∃ t, v = .int (dv n (slice ds a.1 a.2.1)) t
theorem DEnd.mk {n : Int} {ds : List Int} {a : Int × Int × Tok × Tok} {s s' : Shared} {v : Value} (h1 : Keeps s s') (h2 : ∃ t, v = .int (dv n (slice ds a.1 a.2.1)) t) : DEnd n ds a s v s' := ⟨h1, h2⟩

/-- the text of the inner function, read off the program -/
noncomputable def d2iIn : List Stmt := (fnPart ((fnPart (prog0.main.body.drop 12).head?).1.drop 0).head?).1
noncomputable def d2iSc : Scope := (fnPart ((fnPart (prog0.main.body.drop 12).head?).1.drop 0).head?).2

section
variable {w : World} {A : Around} {s : Shared} {lo : List Str} {mean : ExcName → Option Value} {mg mb : Str → Option Value} {g : Heap}

theorem d2i_step {hc : Heap} {L f c' : Addr} {qual : Str} {n : Int} {tn : Tok} {l : Addr} {vs : List Value} {ds : List Int} (hi : IntsAre vs ds) (hlen : ds.length ≤ 64) (hds : ∀ d ∈ ds, 0 ≤ d ∧ d < 2 ^ n.toNat) (hn : 1 ≤ n ∧ n ≤ 64)
    (Gq : Gd w lo mean mg mb hc) (hlq : hc.IsList l vs.toArray) (hfn0 : FnAt f hc)
    (hcN2 : hc.IsCell (L + 1 + 1) (some (.int n tn))) (hcI2 : hc.IsCell (L + 1 + 1 + 1) (some (.ref f))) (hcD2 : hc.IsCell (L + 1) (some (.ref l))) :
    ∀ (a : Int × Int × Tok × Tok) s k (A : Around) L₁ h₁ tk, ((∀ b o, hc.get? b = some o → s.heap.get? b = some o) ∧ 0 ≤ a.1 ∧ a.1 < a.2.1 ∧ a.2.1 ≤ ds.length) → Fr s.heap L₁ h₁ (fun y => [(Str.ofString "L", Value.int a.1 a.2.2.1), (Str.ofString "R", .int a.2.1 a.2.2.2)].reverse.lookup y) → Amb (A.deeper (envX qual d2iSc L₁ f (.ref c') [(Str.ofString "n", L + 1 + 1), (Str.ofString "inner", L + 1 + 1 + 1), (Str.ofString "digits", L + 1)])) k →
      (∀ (b : Int × Int × Tok × Tok) (A' : Around) s' (Q : Value → Shared → Prop), (b.2.1 - b.1).toNat < (a.2.1 - a.1).toNat → Amb A' k → ((∀ b o, hc.get? b = some o → s'.heap.get? b = some o) ∧ 0 ≤ b.1 ∧ b.1 < b.2.1 ∧ b.2.1 ≤ ds.length) → (∀ v s'', DEnd n ds b s' v s'' → Q v s'') → wpAny (model prog0 w) A' (call (.ref f) [.int b.1 b.2.2.1, .int b.2.1 b.2.2.2]) Q (fun _ _ => False) s') →
      wpAny (model prog0 w) (A.deeper (envX qual d2iSc L₁ f (.ref c') [(Str.ofString "n", L + 1 + 1), (Str.ofString "inner", L + 1 + 1 + 1), (Str.ofString "digits", L + 1)])) (execs d2iIn (envX qual d2iSc L₁ f (.ref c') [(Str.ofString "n", L + 1 + 1), (Str.ofString "inner", L + 1 + 1 + 1), (Str.ofString "digits", L + 1)])) (fun fl s' => DEnd n ds a s (match fl with | .ret v => v | _ => .none) s') (fun _ _ => False) { s with heap := h₁, toks := tk } := by
  rintro ⟨x, y, t, u⟩ ⟨h2, gens2, drawn2, tk2, os2⟩ k A2 L2 h₁ tk3 hpk1 F2 hA2 IH
  refine gen_goal fun GX hGX => ?_
  obtain ⟨hk2, hx0, hxy, hy⟩ := hpk1
  refine hGX ?_
  clear hGX
  conv in (occs := *) d2iIn => whnf
  conv in (occs := *) d2iSc => whnf
  w_top on
  dsimp only at *
  have KX := (Gq.keeps hk2).X
  have T := (Gq.keeps hk2).T
  have N2 : News h2 L2 h₁ [] := News.nil
  have l3 := IsList.keepsAll hlq hk2
  have c1 := hcN2.keeps hk2
  have c2 := hcD2.keeps hk2
  have c3 := hcI2.keeps hk2
  have hfn : FnAt f h2 := by
    obtain ⟨q1, q2, q3, q4, q5⟩ := hfn0
    exact ⟨q1, q2, q3, q4, hk2 _ _ q5⟩
  clear hcN2 hcD2 hcI2 hlq hfn0
  k_steps
  · (with_reducible rename Fr _ _ _ _ => F)
    rename x + 1 = y => hxy1
    subst hxy1
    have e9 : ds.getD x.toNat 0 = dv n (slice ds x (x + 1)) := by rw [slice_one hx0 (by omega)]; simp [dv]
    exact DEnd.mk ⟨_, _, rfl, F.keep⟩ ⟨_, congrArg (fun q => Value.int q _) e9⟩
  · refine Stop.out ?_
    (with_reducible rename Fr _ _ _ _ => F)
    rename ¬ x + 1 = y => hxy1
    obtain ⟨hz1, hz2⟩ := mid_fact hx0 hxy hxy1
    obtain ⟨hs1, hs2⟩ := shift_fits hn hlen hds hx0 (Int.le_of_lt hz1) (Int.le_of_lt hz2) hy
    generalize (x + y).fdiv (2 ^ Int.toNat 1) = z at *
    refine IH ⟨_, _, _, _⟩ _ _ _ ?_ hA2 ⟨fun b o e => F.keep b o (hk2 b o e), ?_, ?_, ?_⟩ fun v s'' hend => ?_
    · show (y - z).toNat < (y - x).toNat
      omega
    · show 0 ≤ z
      omega
    · exact hz2
    · exact hy
    refine gen_goal fun GX hGX => ?_
    obtain ⟨⟨h3, tk3, rfl, hk3⟩, t1, rfl⟩ := hend
    refine hGX ?_
    clear hGX
    replace F := Fr.keepsAll F hk3
    have N3 : News h2 L2 h3 [] := News.nil
    k_steps
    refine Stop.out ?_
    refine lshift_int hs1 hs2 ?_
    k_steps
    refine Stop.out ?_
    (with_reducible rename Fr _ _ _ _ => F)
    refine IH ⟨_, _, _, _⟩ _ _ _ ?_ hA2 ⟨fun b o e => F.keep b o (hk2 b o e), ?_, ?_, ?_⟩ fun v s'' hend => ?_
    · show (z - x).toNat < (y - x).toNat
      omega
    · exact hx0
    · exact hz1
    · show z ≤ ds.length
      omega
    refine gen_goal fun GX hGX => ?_
    obtain ⟨⟨h4, tk4, rfl, hk4⟩, t2, rfl⟩ := hend
    refine hGX ?_
    clear hGX
    replace F := Fr.keepsAll F hk4
    have N4 : News h2 L2 h4 [] := News.nil
    k_steps
    exact DEnd.mk ⟨_, _, rfl, F.keep⟩ ⟨_, congrArg (fun q => Value.int q _) (dv_slice (by omega) hx0 (Int.le_of_lt hz1) (Int.le_of_lt hz2) hy)⟩

set_option pp.deepTerms false in
theorem d2i_ok (G : Gd w lo mean mg mb g) (hg : ∀ b o, g.get? b = some o → s.heap.get? b = some o) (hP : g.get? 78 = none) (C : CodeHd g 82 78) (hA : Amb A 200) (hT : TabS 78 56 4 (Str.ofString "_digits2int.<locals>.inner") s.heap)
    {n : Int} {tn : Tok} {l : Addr} {vs : List Value} {ds : List Int} (hl : s.heap.IsList l vs.toArray) (hi : IntsAre vs ds) (hlen : ds.length ≤ 64) (hds : ∀ d ∈ ds, 0 ≤ d ∧ d < 2 ^ n.toNat) (hn : 1 ≤ n ∧ n ≤ 64)
    {Q : Value → Shared → Prop} {E : Value → Shared → Prop} (hQ : ∀ t s', KeepsBut [78] s s' → TabS 78 56 4 (Str.ofString "_digits2int.<locals>.inner") s'.heap → Q (.int (dv n ds) t) s') :
    wpAny (model prog0 w) A (call (.ref 83) [.ref l, .int n tn]) Q E s := by
  obtain ⟨ps, hp78, hps⟩ := hT
  have hgh : ∀ b o, g.get? b = some o → (hideAll s.heap [78]).get? b = some o := fun b o e => hide_keep (fun q => by rw [q, hP] at e; cases e) (hg b o e)
  have G1 : Gd w lo mean mg mb s.heap := G.keeps hg
  have G0 := G.keeps hgh
  have C0 := C.keeps hgh
  have KX := G0.X
  have T := G0.T
  refine wpAny_call ?_
  refine' enterC (k := 199) (binds := [(Str.ofString "digits", .ref l), (Str.ofString "n", .int n tn)]) G1 hA ?k6 ?k7 ?k9 ?kB ?c2 ?c3 ?c4 ?c5 ?c6 ?_
  (case k6 => k_is); (case k7 => exact rfl);  (case k9 => k_is); (case kB => exact rfl); (case c2 => intro L; exact kinds_of (by kinds_ok)); (case c3 => decide); (case c4 => exact rfl); (case c5 => exact rfl); (case c6 => exact rfl)
  obtain ⟨hp, gens, drawn, toks, os⟩ := s
  dsimp only at *
  intro L h₁ tk cells F N X0 hA'
  refine CellsAre.three X0 fun o1 o2 o3 q e1 e2 e3 => ?_
  subst q
  have hl0 : (hideAll hp [78]).IsList l vs.toArray := by
    obtain ⟨o, e, hc, r⟩ := hl
    exact ⟨o, hide_keep (fun q => by rw [q, hp78] at e; cases e; cases hc) e, hc, r⟩
  have l78 : @LT.lt Nat _ 78 L := Nat.lt_of_lt_of_le (Heap.lt_size hp78) F.above
  replace N := News.hide F N hp78
  replace F := Fr.hide (P := 78) F
  clear X0
  replace e1 : o1.data = .cell none := e1
  replace e2 : o2.data = .cell (some (.int n tn)) := e2
  replace e3 : o3.data = .cell (some (.ref l)) := e3
  simp only [List.cons_append, List.nil_append] at N
  rcases hps with rfl | ⟨c0, rfl, hrec⟩
  · w_top on
    k_steps
    · refine Stop.out ?_
      (with_reducible rename Fr _ _ _ _ => F); (with_reducible rename News _ _ _ _ => N)
      have hfm := (N _ (.head _)).1
      rename Obj.data _ = Data.fields _ => d1
      have hcr := codeRec_news N (by k_mem) d1 (by assumption)
      rename Obj.data _ = Data.cell (some (Value.ref _)) => e4
      have hcN2 := cell_of (c := L + 1 + 1) N e2 (by k_mem)
      have hcD2 := cell_of (c := L + 1) N e3 (by k_mem)
      have hcI2 := cell_of (c := L + 1 + 1 + 1) N e4 (by k_mem)
      have hlq := IsList.keepsAll hl0 F.keep
      have Gq := G0.keeps F.keep
      refine rec_rule hfm hcr Gq.T.nolimit (α := Int × Int × Tok × Tok) (fun a => [.int a.1 a.2.2.1, .int a.2.1 a.2.2.2]) (fun a => [(Str.ofString "L", .int a.1 a.2.2.1), (Str.ofString "R", .int a.2.1 a.2.2.2)]) (fun a => (a.2.1 - a.1).toNat)
        (fun a s => (∀ b o, Heap.get? _ b = some o → s.heap.get? b = some o) ∧ 0 ≤ a.1 ∧ a.1 < a.2.1 ∧ a.2.1 ≤ ds.length) (DEnd n ds)
        ?_ ?_ ?_ ?_ ?_ ?_ ?_ ?_ 64 ⟨0, ds.length, _, _⟩ _ _ _ _ ?_ ?_ ⟨fun b o e => e, ?_, ?_, ?_⟩ ?_
      · intro a s; exact BindsTo.of_eq rfl
      · intro a; exact locs rfl
      · exact rfl
      · exact rfl
      · exact rfl
      · decide
      · intro a s hp'; exact ⟨hp'.1 _ _ hfm, hcr.keeps hp'.1, Gq.T.nolimit.keeps hp'.1⟩
      · exact d2i_step hi hlen hds hn Gq hlq ⟨_, _, _, _, hfm⟩ hcN2 hcI2 hcD2
      · show ((ds.length : Int) - 0).toNat ≤ 64
        omega
      · exact hA'.le (by decide)
      · exact Int.le_refl 0
      · have : 0 < ds.length := by assumption
        show (0 : Int) < ds.length
        omega
      · exact Int.le_refl _
      · rintro v s'' ⟨⟨h3, tk3, rfl, hk3⟩, t1, rfl⟩
        show Q (.int (dv n (slice ds 0 ds.length)) t1) _
        rw [slice_all]
        exact hQ _ _ ⟨h3, _, rfl, fun b o hb e => hk3 _ _ (F.keep _ _ (hide_keep (by simpa using hb) e))⟩ ⟨_, hk3 _ _ (N (78, _) (by k_mem)).1, .inr ⟨_, rfl, hcr.keeps hk3⟩⟩
    · (with_reducible rename Fr _ _ _ _ => F); (with_reducible rename News _ _ _ _ => N)
      rename Obj.data _ = Data.fields _ => d1
      have hcr := codeRec_news N (by k_mem) d1 (by assumption)
      have e0 : ds = [] := List.eq_nil_of_length_eq_zero (by have : ¬ 0 < ds.length := by assumption
                                                             omega)
      rw [e0] at hQ
      exact hQ _ _ ⟨_, _, rfl, fun b o hb e => F.keep _ _ (hide_keep (by simpa using hb) e)⟩ ⟨_, (N (78, _) (by k_mem)).1, .inr ⟨_, rfl, hcr⟩⟩
  · have hrec0 : (hideAll hp [78]).CodeRec (.ref c0) (Str.ofString "_digits2int.<locals>.inner") := hrec.at fun o e => hide_keep (codeNe hp78 (.inr ⟨_, rfl⟩) hrec) e
    w_top on
    k_steps
    · refine Stop.out ?_
      (with_reducible rename Fr _ _ _ _ => F); (with_reducible rename News _ _ _ _ => N)
      have hfm := (N _ (.head _)).1
      have hcr := hrec0.keeps F.keep
      rename Obj.data _ = Data.cell (some (Value.ref _)) => e4
      have hcN2 := cell_of (c := L + 1 + 1) N e2 (by k_mem)
      have hcD2 := cell_of (c := L + 1) N e3 (by k_mem)
      have hcI2 := cell_of (c := L + 1 + 1 + 1) N e4 (by k_mem)
      have hlq := IsList.keepsAll hl0 F.keep
      have Gq := G0.keeps F.keep
      refine rec_rule hfm hcr Gq.T.nolimit (α := Int × Int × Tok × Tok) (fun a => [.int a.1 a.2.2.1, .int a.2.1 a.2.2.2]) (fun a => [(Str.ofString "L", .int a.1 a.2.2.1), (Str.ofString "R", .int a.2.1 a.2.2.2)]) (fun a => (a.2.1 - a.1).toNat)
        (fun a s => (∀ b o, Heap.get? _ b = some o → s.heap.get? b = some o) ∧ 0 ≤ a.1 ∧ a.1 < a.2.1 ∧ a.2.1 ≤ ds.length) (DEnd n ds)
        ?_ ?_ ?_ ?_ ?_ ?_ ?_ ?_ 64 ⟨0, ds.length, _, _⟩ _ _ _ _ ?_ ?_ ⟨fun b o e => e, ?_, ?_, ?_⟩ ?_
      · intro a s; exact BindsTo.of_eq rfl
      · intro a; exact locs rfl
      · exact rfl
      · exact rfl
      · exact rfl
      · decide
      · intro a s hp'; exact ⟨hp'.1 _ _ hfm, hcr.keeps hp'.1, Gq.T.nolimit.keeps hp'.1⟩
      · exact d2i_step hi hlen hds hn Gq hlq ⟨_, _, _, _, hfm⟩ hcN2 hcI2 hcD2
      · show ((ds.length : Int) - 0).toNat ≤ 64
        omega
      · exact hA'.le (by decide)
      · exact Int.le_refl 0
      · have : 0 < ds.length := by assumption
        show (0 : Int) < ds.length
        omega
      · exact Int.le_refl _
      · rintro v s'' ⟨⟨h3, tk3, rfl, hk3⟩, t1, rfl⟩
        show Q (.int (dv n (slice ds 0 ds.length)) t1) _
        rw [slice_all]
        exact hQ _ _ ⟨h3, _, rfl, fun b o hb e => hk3 _ _ (F.keep _ _ (hide_keep (by simpa using hb) e))⟩ ⟨_, hk3 _ _ (N (78, _) (by k_mem)).1, .inr ⟨_, rfl, hcr.keeps hk3⟩⟩
    · (with_reducible rename Fr _ _ _ _ => F); (with_reducible rename News _ _ _ _ => N)
      have hcr := hrec0.keeps F.keep
      have e0 : ds = [] := List.eq_nil_of_length_eq_zero (by have : ¬ 0 < ds.length := by assumption
                                                             omega)
      rw [e0] at hQ
      exact hQ _ _ ⟨_, _, rfl, fun b o hb e => F.keep _ _ (hide_keep (by simpa using hb) e)⟩ ⟨_, (N (78, _) (by k_mem)).1, .inr ⟨_, rfl, hcr⟩⟩
end
end Mine
end

section
open PySem PySem.W PySem.Calls PyProof.Rows
set_option Elab.async false
namespace Mine
set_option maxRecDepth 100000
set_option maxHeartbeats 8000000

theorem fillI1 (h : PySem.Challenge.rw_ta0035_01.about = [] → hd.heap_39 = hd.heap_39) : (PySem.Challenge.rw_ta0035_01.about = [] → hd.heap_39 = hd.heap_39) := by
  k_fill
  exact h

/-- the digits of a number -/
noncomputable def digs (n : Int) : Nat → Int → List Int
  | 0, _ => []
  | c + 1, x => (x % 2 ^ n.toNat) :: digs n c (x / 2 ^ n.toNat)

theorem digs_len (n : Int) : ∀ c x, (digs n c x).length = c
  | 0, _ => rfl
  | c + 1, x => by rw [digs, List.length_cons, digs_len n c]

theorem digs_add (n : Int) (q : Nat) : ∀ (p : Nat) (x : Int), digs n (p + q) x = digs n p x ++ digs n q (x / 2 ^ (p * n.toNat))
  | 0, x => by simp [digs]
  | p + 1, x => by
    rw [Nat.succ_add, digs, digs, List.cons_append, digs_add n q p, Int.ediv_ediv_of_nonneg (Int.le_of_lt (Int.pow_pos (by decide))), ← Int.pow_add, Nat.succ_mul, Nat.add_comm n.toNat]

theorem digs_mod (n : Int) : ∀ (p : Nat) (x : Int), digs n p (x % 2 ^ (p * n.toNat)) = digs n p x
  | 0, x => rfl
  | p + 1, x => by
    have hp : (0 : Int) < 2 ^ n.toNat := Int.pow_pos (by decide)
    have e : (2 : Int) ^ ((p + 1) * n.toNat) = 2 ^ n.toNat * 2 ^ (p * n.toNat) := by rw [Nat.succ_mul, Nat.add_comm, Int.pow_add]
    rw [digs, digs, e]
    have e1 : x % (2 ^ n.toNat * 2 ^ (p * n.toNat)) % 2 ^ n.toNat = x % 2 ^ n.toNat := Int.emod_emod_of_dvd _ ⟨_, rfl⟩
    have e2 : x % (2 ^ n.toNat * 2 ^ (p * n.toNat)) / 2 ^ n.toNat = (x / 2 ^ n.toNat) % 2 ^ (p * n.toNat) := by
      rw [Int.emod_def x, Int.mul_assoc, Int.sub_ediv_of_dvd _ ⟨_, rfl⟩, Int.mul_ediv_cancel_left _ (Int.ne_of_gt hp), Int.emod_def (x / 2 ^ n.toNat), Int.ediv_ediv_of_nonneg (Int.le_of_lt hp)]
    rw [e1, e2, digs_mod n p]

theorem and_high (x s : Nat) : x &&& (x / 2 ^ s * 2 ^ s) = x / 2 ^ s * 2 ^ s := by
  apply Nat.eq_of_testBit_eq
  intro i
  rw [Nat.testBit_and, Nat.mul_comm, Nat.testBit_two_pow_mul, Nat.testBit_div_two_pow]
  by_cases h : s ≤ i
  · have h3 : i - s + s = i := by omega
    simp [h, h3]
  · simp [h]

theorem xor_low {x : Int} {s : Nat} (hx : 0 ≤ x) : Builtin.bitXor x (x.fdiv (2 ^ s) * 2 ^ s) = x % 2 ^ s := by
  have hp : (0 : Int) < 2 ^ s := Int.pow_pos (by decide)
  rw [Int.fdiv_eq_ediv_of_nonneg _ (Int.le_of_lt hp), bitXor_and]
  have h1 : 0 ≤ x / 2 ^ s := Int.ediv_nonneg hx (Int.le_of_lt hp)
  have h2 : 0 ≤ x / 2 ^ s * 2 ^ s := Int.mul_nonneg h1 (Int.le_of_lt hp)
  have e : Builtin.bitAnd x (x / 2 ^ s * 2 ^ s) = x / 2 ^ s * 2 ^ s := by
    unfold Builtin.bitAnd
    rw [decide_eq_true hx, decide_eq_true h2]
    obtain ⟨k, rfl⟩ := Int.eq_ofNat_of_zero_le hx
    have e3 : ((2 : Int) ^ s) = ((2 ^ s : Nat) : Int) := by push_cast; rfl
    have e2 : ((k : Int) / 2 ^ s * 2 ^ s) = ((k / 2 ^ s * 2 ^ s : Nat) : Int) := by rw [e3]; push_cast; rfl
    rw [e2]
    show (((k : Int).toNat &&& ((k / 2 ^ s * 2 ^ s : Nat) : Int).toNat : Nat) : Int) = _
    rw [Int.toNat_natCast, Int.toNat_natCast, and_high]
  rw [e, Int.emod_def]
  have : x / 2 ^ s * 2 ^ s = 2 ^ s * (x / 2 ^ s) := Int.mul_comm ..
  omega

/-- a list with a part put in -/
noncomputable def put (zs : List Int) (l : Int) (ds : List Int) : List Int := zs.take l.toNat ++ ds ++ zs.drop (l.toNat + ds.length)

theorem put_len {zs : List Int} {l : Int} {ds : List Int} (h : l.toNat + ds.length ≤ zs.length) : (put zs l ds).length = zs.length := by
  unfold put
  rw [List.length_append, List.length_append, List.length_take, List.length_drop, Nat.min_eq_left (Nat.le_trans (Nat.le_add_right _ _) h), Nat.add_sub_of_le h]

theorem put_put {zs : List Int} {l m : Int} {a b : List Int} (hm : m.toNat = l.toNat + a.length) (h : m.toNat + b.length ≤ zs.length) : put (put zs l a) m b = put zs l (a ++ b) := by
  unfold put
  have e1 : (zs.take l.toNat).length = l.toNat := List.length_take_of_le (Nat.le_trans (Nat.le_add_right _ a.length) (hm ▸ Nat.le_trans (Nat.le_add_right _ _) h))
  have e2 : (zs.take l.toNat ++ a).length = m.toNat := by rw [List.length_append, e1, hm]
  rw [← e2, List.take_left, ← List.drop_drop, List.drop_left, List.drop_drop, List.length_append]
  simp only [List.append_assoc, Nat.add_assoc]

theorem put_all {zs ds : List Int} (h : ds.length = zs.length) : put zs 0 ds = ds := by
  unfold put
  simp [h]

theorem cell_hide {h : Heap} {D c : Addr} {v : Option Value} {ys : Array Value} {k : Nat} (hD : h.get? D = some (listOf ys k)) (x : h.IsCell c v) : (hideAll h [D]).IsCell c v :=
  let ⟨o, e, d⟩ := x; ⟨o, hide_keep (fun q => by rw [q, hD] at e; cases e; cases d) e, d⟩

theorem name_get {h : Heap} {D : Addr} {o : Obj} (_ : h.get? D = some o) : ∃ D2, D2 = D := ⟨D, rfl⟩

theorem name_obj {h : Heap} {D : Addr} {o : Obj} (_ : h.get? D = some o) : ∃ o2, o2 = o := ⟨o, rfl⟩
theorem name_data {o : Obj} {d : Data} (_ : o.data = d) : ∃ o2, o2 = o := ⟨o, rfl⟩
theorem name_eq {n m : Nat} (_ : m = n) : ∃ n2, n2 = n := ⟨n, rfl⟩

theorem lt_bits {a : Int} (h : 0 ≤ a) : a < 2 ^ Builtin.Int.intBits a := by
  unfold Builtin.Int.intBits
  by_cases h1 : a = 0
  · subst h1; decide
  · rw [if_neg (by simpa using h1)]
    have h2 : a.natAbs < 2 ^ (a.natAbs.log2 + 1) := Nat.lt_log2_self
    have e1 : (a.natAbs : Int) = a := Int.natAbs_of_nonneg h
    have e2 : ((2 ^ (a.natAbs.log2 + 1) : Nat) : Int) = (2 : Int) ^ (a.natAbs.log2 + 1) := by push_cast; rfl
    omega

theorem bits_pos {a : Int} (h : a ≠ 0) : 1 ≤ Builtin.Int.intBits a := by
  unfold Builtin.Int.intBits
  rw [if_neg (by simpa using h)]
  omega

theorem cnt_facts {b n : Int} {cnt : Nat} (hn : 1 ≤ n) (hb : 0 ≤ b) (h : (cnt : Int) = (b + n - 1).fdiv n) : b ≤ cnt * n ∧ (1 ≤ b → 1 ≤ cnt) ∧ (b = 0 → cnt = 0) := by
  rw [Int.fdiv_eq_ediv_of_nonneg _ (by omega)] at h
  have h1 := Int.mul_ediv_add_emod (b + n - 1) n
  have h2 := Int.emod_lt_of_pos (b + n - 1) (show 0 < n by omega)
  have h3 := Int.emod_nonneg (b + n - 1) (show n ≠ 0 by omega)
  rw [← h, Int.mul_comm] at h1
  refine ⟨by omega, fun h4 => ?_, fun h4 => ?_⟩
  · rcases Nat.eq_zero_or_pos cnt with h5 | h5
    · subst h5; simp at h1; omega
    · exact h5
  · subst h4
    rcases Nat.eq_zero_or_pos cnt with h5 | h5
    · exact h5
    · have : (1 : Int) * n ≤ cnt * n := Int.mul_le_mul_of_nonneg_right (by omega) (by omega)
      omega

theorem digs_fit {a n : Int} {cnt : Nat} (hn : 1 ≤ n) (ha : 0 ≤ a) (h : (Builtin.Int.intBits a : Int) ≤ cnt * n) : a < 2 ^ (cnt * n.toNat) := by
  refine Int.lt_of_lt_of_le (lt_bits ha) ?_
  have : ((cnt * n.toNat : Nat) : Int) = cnt * n := by push_cast; rw [Int.toNat_of_nonneg (by omega)]
  have h2 : 2 ^ Builtin.Int.intBits a ≤ 2 ^ (cnt * n.toNat) := Nat.pow_le_pow_right (by decide) (by omega)
  have e : ∀ k : Nat, (2 : Int) ^ k = ((2 ^ k : Nat) : Int) := fun k => by push_cast; rfl
  rw [e, e]
  exact Int.ofNat_le.mpr h2

structure IA where
  x : Int
  l : Int
  r : Int
  t : Tok
  u : Tok
  v : Tok
  zs : List Int

noncomputable def IPre (n : Int) (hb : Heap) (D : Addr) (a : IA) (s : Shared) : Prop :=
  (∀ b o, hb.get? b = some o → s.heap.get? b = some o) ∧ 0 ≤ a.l ∧ a.l < a.r ∧ a.r ≤ a.zs.length ∧ a.zs.length ≤ 64 ∧ 0 ≤ a.x ∧ a.x < 2 ^ ((a.r - a.l).toNat * n.toNat) ∧ ∃ (ys : List Value) (k : Nat), s.heap.get? D = some (listOf ys.toArray k) ∧ IntsAre ys a.zs

noncomputable def IEnd (n : Int) (D : Addr) (a : IA) (s : Shared) (v : Value) (s' : Shared) : Prop :=
  v = .none ∧ ∃ h' tk', s' = { s with heap := h', toks := tk' } ∧ (∀ b o, b ≠ D → s.heap.get? b = some o → h'.get? b = some o) ∧ ∃ (ys : List Value) (k : Nat), h'.get? D = some (listOf ys.toArray k) ∧ IntsAre ys (put a.zs a.l (digs n (a.r - a.l).toNat a.x))

theorem put_one {zs : List Int} {l x : Int} (h : l.toNat < zs.length) : put zs l [x] = zs.set l.toNat x := by
  rw [List.set_eq_take_append_cons_drop, if_pos h]
  unfold put
  simp

/-- the low and the high part of a number -/
theorem parts {n x y m z : Int} (hn : 1 ≤ n) (hy : 0 ≤ y) (h1 : y < m) (h2 : m < z) (hx1 : 0 ≤ x) (hx2 : x < 2 ^ ((z - y).toNat * n.toNat)) :
    Builtin.bitXor x (x.fdiv (2 ^ ((m - y) * n).toNat) * 2 ^ ((m - y) * n).toNat) = x % 2 ^ ((m - y).toNat * n.toNat) ∧
    (0 ≤ x % 2 ^ ((m - y).toNat * n.toNat) ∧ x % 2 ^ ((m - y).toNat * n.toNat) < 2 ^ ((m - y).toNat * n.toNat)) ∧
    x.fdiv (2 ^ ((m - y) * n).toNat) = x / 2 ^ ((m - y).toNat * n.toNat) ∧
    (0 ≤ x / 2 ^ ((m - y).toNat * n.toNat) ∧ x / 2 ^ ((m - y).toNat * n.toNat) < 2 ^ ((z - m).toNat * n.toNat)) := by
  have e : ((m - y) * n).toNat = (m - y).toNat * n.toNat := Int.toNat_mul (Int.sub_nonneg_of_le (Int.le_of_lt h1)) (Int.le_trans (by decide) hn)
  have hp : (0 : Int) < 2 ^ ((m - y).toNat * n.toNat) := Int.pow_pos (by decide)
  rw [e]
  refine ⟨xor_low hx1, ⟨Int.emod_nonneg _ (Int.ne_of_gt hp), Int.emod_lt_of_pos _ hp⟩, Int.fdiv_eq_ediv_of_nonneg _ (Int.le_of_lt hp), Int.ediv_nonneg hx1 (Int.le_of_lt hp), ?_⟩
  refine Int.ediv_lt_of_lt_mul hp ?_
  rw [← Int.pow_add, ← Nat.add_mul]
  rw [Nat.add_comm, toNat_split (Int.le_of_lt h1) (Int.le_of_lt h2)]
  exact hx2

theorem put_parts {n x y m z : Int} {zs : List Int} (hy : 0 ≤ y) (h1 : y < m) (h2 : m < z) (h3 : z ≤ zs.length) :
    put (put zs y (digs n (m - y).toNat (x % 2 ^ ((m - y).toNat * n.toNat)))) m (digs n (z - m).toNat (x / 2 ^ ((m - y).toNat * n.toNat))) = put zs y (digs n (z - y).toNat x) := by
  rw [put_put (by rw [digs_len, toNat_at hy (Int.le_of_lt h1)]) (by rw [digs_len, toNat_at (Int.le_trans hy (Int.le_of_lt h1)) (Int.le_of_lt h2)]; exact Int.toNat_le.mpr h3), digs_mod, ← digs_add, toNat_split (Int.le_of_lt h1) (Int.le_of_lt h2)]

theorem hide_other {h : Heap} {D b : Addr} {o : Obj} {ys : Array Value} {k : Nat} (hD : h.get? D = some (listOf ys k)) (e : h.get? b = some o) (hn : o ≠ listOf ys k) : (hideAll h [D]).get? b = some o :=
  hide_keep (fun q => by rw [q, hD] at e; cases e; exact hn rfl) e

theorem codeRec_hide {h : Heap} {D : Addr} {c : Value} {q : Str} {ys : Array Value} {k : Nat} (hD : h.get? D = some (listOf ys k)) (x : h.CodeRec c q) : (hideAll h [D]).CodeRec c q := by
  obtain ⟨c', o, vs, t, e1, e2, e3, e4⟩ := x
  exact ⟨c', o, vs, t, e1, hide_other hD e2 (fun q => by rw [q] at e3; cases e3), e3, e4⟩

theorem i2d_rule {w : World} {qual : Str} {params : Arguments} {body : List Stmt} {scope : Scope} {cl : List (Str × Addr)} {doc pm ctv : Value} {c' f D : Addr} {n : Int} {hc : Heap} {ys : Array Value} {k0 : Nat}
    (hD : hc.get? D = some (listOf ys k0)) (hfm : hc.get? f = some (fnMade (Str.ofString "inner") qual params body scope cl doc pm c' ctv)) (hcr : hc.CodeRec (.ref c') qual) (hnl : (hideAll hc [D]).NoLimit)
    (hbind : ∀ (a : IA) s, BindsTo s (fnX (Str.ofString "inner") qual params body scope cl .none .none doc pm none (.ref c') ctv) ⟨[.int a.x a.t, .int a.l a.u, .int a.r a.v], []⟩ [(Str.ofString "x", .int a.x a.t), (Str.ofString "L", .int a.l a.u), (Str.ofString "R", .int a.r a.v)])
    (hloc : ∀ a : IA, ∀ y ∈ [(Str.ofString "x", Value.int a.x a.t), (Str.ofString "L", .int a.l a.u), (Str.ofString "R", .int a.r a.v)], scope.names.lookup y.1 = some .local)
    (hco : scope.isCoroutine = false) (hgen : scope.isGenerator = false) (hk : scope.kind = .function) (hcell : ∀ x ∈ scope.names, x.2 ≠ .cell)
    (step : ∀ (a : IA) s k (A : Around) L h₁ tk, IPre n (hideAll hc [D]) D a s → Fr s.heap L h₁ (fun y => [(Str.ofString "x", Value.int a.x a.t), (Str.ofString "L", .int a.l a.u), (Str.ofString "R", .int a.r a.v)].reverse.lookup y) → Amb (A.deeper (envX qual scope L f (.ref c') cl)) k →
      (∀ (b : IA) (A' : Around) s' (Q : Value → Shared → Prop), (b.r - b.l).toNat < (a.r - a.l).toNat → Amb A' k → IPre n (hideAll hc [D]) D b s' → (∀ v s'', IEnd n D b s' v s'' → Q v s'') → wpAny (model prog0 w) A' (call (.ref f) [.int b.x b.t, .int b.l b.u, .int b.r b.v]) Q (fun _ _ => False) s') →
      wpAny (model prog0 w) (A.deeper (envX qual scope L f (.ref c') cl)) (execs body (envX qual scope L f (.ref c') cl)) (fun fl s' => IEnd n D a s (match fl with | .ret v => v | _ => .none) s') (fun _ _ => False) { s with heap := h₁, toks := tk }) :
    ∀ k (a : IA) (A : Around) s (Q : Value → Shared → Prop) (E : Value → Shared → Prop), (a.r - a.l).toNat ≤ k → Amb A (k + 1) → IPre n (hideAll hc [D]) D a s → (∀ v s'', IEnd n D a s v s'' → Q v s'') → wpAny (model prog0 w) A (call (.ref f) [.int a.x a.t, .int a.l a.u, .int a.r a.v]) Q E s := by
  have h1 := hide_other hD hfm (fun q => by have := congrArg Obj.data q; cases this)
  have h2 := codeRec_hide hD hcr
  exact rec_rule h1 h2 hnl (fun a : IA => [.int a.x a.t, .int a.l a.u, .int a.r a.v]) (fun a => [(Str.ofString "x", .int a.x a.t), (Str.ofString "L", .int a.l a.u), (Str.ofString "R", .int a.r a.v)]) (fun a => (a.r - a.l).toNat) (IPre n (hideAll hc [D]) D) (IEnd n D)
    hbind hloc hco hgen hk hcell (fun a s hp => ⟨hp.1 _ _ h1, h2.keeps hp.1, hnl.keeps hp.1⟩) step

/-- the text of the inner function, read off the program -/
noncomputable def i2dIn : List Stmt := (fnPart ((fnPart (prog0.main.body.drop 11).head?).1.drop 1).head?).1
noncomputable def i2dSc : Scope := (fnPart ((fnPart (prog0.main.body.drop 11).head?).1.drop 1).head?).2

section
variable {w : World} {A : Around} {s : Shared} {lo : List Str} {mean : ExcName → Option Value} {mg mb : Str → Option Value} {g : Heap}

theorem i2d_step {hc : Heap} {D L f c' : Addr} {qual : Str} {ys0 : Array Value} {k0 : Nat} {n : Int} {tn : Tok} (hn : 1 ≤ n ∧ n ≤ 64)
    (Gq : Gd w lo mean mg mb (hideAll hc [D])) (hD : hc.get? D = some (listOf ys0 k0)) (hfn0 : FnAt f (hideAll hc [D]))
    (hcN2 : hc.IsCell (L + 1) (some (.int n tn))) (hcI2 : hc.IsCell (L + 1 + 1 + 1) (some (.ref f))) (hcD2 : hc.IsCell (L + 1 + 1) (some (.ref D))) :
    ∀ (a : IA) s k (A : Around) L₁ h₁ tk, IPre n (hideAll hc [D]) D a s → Fr s.heap L₁ h₁ (fun y => [(Str.ofString "x", Value.int a.x a.t), (Str.ofString "L", .int a.l a.u), (Str.ofString "R", .int a.r a.v)].reverse.lookup y) → Amb (A.deeper (envX qual i2dSc L₁ f (.ref c') [(Str.ofString "n", L + 1), (Str.ofString "inner", L + 1 + 1 + 1), (Str.ofString "a_digits", L + 1 + 1)])) k →
      (∀ (b : IA) (A' : Around) s' (Q : Value → Shared → Prop), (b.r - b.l).toNat < (a.r - a.l).toNat → Amb A' k → IPre n (hideAll hc [D]) D b s' → (∀ v s'', IEnd n D b s' v s'' → Q v s'') → wpAny (model prog0 w) A' (call (.ref f) [.int b.x b.t, .int b.l b.u, .int b.r b.v]) Q (fun _ _ => False) s') →
      wpAny (model prog0 w) (A.deeper (envX qual i2dSc L₁ f (.ref c') [(Str.ofString "n", L + 1), (Str.ofString "inner", L + 1 + 1 + 1), (Str.ofString "a_digits", L + 1 + 1)])) (execs i2dIn (envX qual i2dSc L₁ f (.ref c') [(Str.ofString "n", L + 1), (Str.ofString "inner", L + 1 + 1 + 1), (Str.ofString "a_digits", L + 1 + 1)])) (fun fl s' => IEnd n D a s (match fl with | .ret v => v | _ => .none) s') (fun _ _ => False) { s with heap := h₁, toks := tk } := by
  rintro ⟨x, y, z, t, u, v, zs⟩ ⟨h2, gens2, drawn2, tk2, os2⟩ k A2 L2 h₁ tk3 hpk1 F2 hA2 IH
  refine gen_goal fun GX hGX => ?_
  obtain ⟨hk2, hx0, hxy, hy, hzl, hx1, hx2, ys, k9, hD2, hys⟩ := hpk1
  refine hGX ?_
  clear hGX
  conv in (occs := *) i2dIn => whnf
  conv in (occs := *) i2dSc => whnf
  w_top on
  dsimp only at *
  have hk3 := fun b o (e : (hideAll _ [D]).get? b = some o) => (hide_keep (fun q => by rw [q, hideAll_none _ (.head _)] at e; cases e) (hk2 b o e) : (hideAll h2 [D]).get? b = some o)
  have KX := (Gq.keeps hk3).X
  have T := (Gq.keeps hk3).T
  have N2 := News.hide F2 (News.nil (h₀ := h2)) hD2
  have c1 := (cell_hide hD hcN2).keeps hk3
  have c2 := (cell_hide hD hcD2).keeps hk3
  have c3 := (cell_hide hD hcI2).keeps hk3
  have hfn : FnAt f (hideAll h2 [D]) := by
    obtain ⟨q1, q2, q3, q4, q5⟩ := hfn0
    exact ⟨q1, q2, q3, q4, hk3 _ _ q5⟩
  replace F2 := Fr.hide (P := D) F2
  simp only [List.nil_append] at N2
  clear hcN2 hcD2 hcI2 hD hfn0
  have hxb : Builtin.Int.intBits x ≤ 64 * 64 := Nat.le_trans (intBits_lt hx1 hx2) (Nat.mul_le_mul (by omega) (by omega))
  by_cases hyz : y + 1 = z
  · k_steps
    · (with_reducible rename Fr _ _ _ _ => F); (with_reducible rename News _ _ _ _ => N)
      rename IntsAre _ (List.set _ _ _) => hset
      have e9 : put zs y (digs n (z - y).toNat x) = zs.set y.toNat x := by
        have e1 : (z - y).toNat = 1 := by omega
        rw [e1] at hx2 ⊢
        rw [Nat.one_mul] at hx2
        rw [digs, digs, Int.emod_eq_of_lt hx1 hx2, put_one (by omega)]
      exact (⟨rfl, _, _, rfl, fun b o hb e => F.keep _ _ (hide_keep hb e), _, _, (N _ (.head _)).1, by show IntsAre _ (put zs y (digs n (z - y).toNat x)); rw [e9]; exact hset⟩ : IEnd n D ⟨x, y, z, t, u, v, zs⟩ ⟨h2, gens2, drawn2, tk2, os2⟩ .none ⟨_, gens2, drawn2, _, os2⟩)
    · exact absurd hyz (by assumption)
  · obtain ⟨hz1, hz2⟩ := mid_fact hx0 hxy hyz
    have hsh0 : 0 ≤ ((y + z).fdiv (2 ^ Int.toNat 1) - y) * n := Int.mul_nonneg (by omega) (by omega)
    have hsh1 : ((y + z).fdiv (2 ^ Int.toNat 1) - y) * n ≤ 64 * 64 := Int.mul_le_mul (by omega) hn.2 (by omega) (by decide)
    have hup : Builtin.Int.intBits (x.fdiv (2 ^ (((y + z).fdiv (2 ^ Int.toNat 1) - y) * n).toNat)) ≤ 64 * 64 := by
      have hp : (0 : Int) < 2 ^ (((y + z).fdiv (2 ^ Int.toNat 1) - y) * n).toNat := Int.pow_pos (by decide)
      rw [Int.fdiv_eq_ediv_of_nonneg _ (Int.le_of_lt hp)]
      have h1 : 0 ≤ x / 2 ^ (((y + z).fdiv (2 ^ Int.toNat 1) - y) * n).toNat := Int.ediv_nonneg hx1 (Int.le_of_lt hp)
      have h2 : x / 2 ^ (((y + z).fdiv (2 ^ Int.toNat 1) - y) * n).toNat ≤ x := Int.ediv_le_self _ hx1
      exact Nat.le_trans (intBits_lt h1 (Int.lt_of_le_of_lt h2 hx2)) (Nat.mul_le_mul (by omega) (by omega))
    k_steps
    · exact absurd (by assumption) hyz
    refine Stop.out ?_
    refine lshift_int hsh0 (by omega) ?_
    k_steps
    refine Stop.out ?_
    (with_reducible rename Fr _ _ _ _ => F); (with_reducible rename News _ _ _ _ => N)
    refine gen_goal fun GX hGX => ?_
    obtain ⟨q1, q2, q3, q4⟩ := parts (n := n) hn.1 hx0 hz1 hz2 hx1 hx2
    refine hGX ?_
    clear hGX
    rw [q1]
    clear hsh0 hsh1 hup q1
    generalize (y + z).fdiv (2 ^ Int.toNat 1) = m at *
    refine IH ⟨_, _, _, _, _, _, zs⟩ _ _ _ ?_ hA2 ⟨fun b o e => F.keep b o (hk3 b o e), hx0, hz1, ?_, hzl, q2.1, q2.2, _, _, (N _ (.head _)).1, hys⟩ fun v1 s'' hend => ?_
    · show (m - y).toNat < (z - y).toNat
      omega
    · show m ≤ zs.length
      omega
    refine gen_goal fun GX hGX => ?_
    obtain ⟨rfl, h3, tk3, rfl, hk4, ys1, k1, hD3, hys1⟩ := hend
    refine hGX ?_
    clear hGX
    replace F := Fr.iter F N hk4
    replace N := News.iter N (fun p hp' => by cases hp') hk4 hD3
    dsimp only at hys1
    k_steps
    refine Stop.out ?_
    (with_reducible rename Fr _ _ _ _ => F); (with_reducible rename News _ _ _ _ => N)
    rw [q3]
    have hpl : (put zs y (digs n (m - y).toNat (x % 2 ^ ((m - y).toNat * n.toNat)))).length = zs.length := put_len (by rw [digs_len]; omega)
    refine IH ⟨_, _, _, _, _, _, put zs y (digs n (m - y).toNat (x % 2 ^ ((m - y).toNat * n.toNat)))⟩ _ _ _ ?_ hA2 ⟨fun b o e => F.keep b o (hk3 b o e), ?_, hz2, ?_, ?_, q4.1, q4.2, _, _, (N _ (.head _)).1, hys1⟩ fun v1 s'' hend => ?_
    · show (z - m).toNat < (z - y).toNat
      omega
    · show 0 ≤ m
      omega
    · show z ≤ ((put _ _ _).length : Nat)
      rw [hpl]; exact hy
    · show (put _ _ _).length ≤ 64
      rw [hpl]; exact hzl
    refine gen_goal fun GX hGX => ?_
    obtain ⟨rfl, h4, tk4, rfl, hk5, ys2, k2, hD4, hys2⟩ := hend
    refine hGX ?_
    clear hGX
    replace F := Fr.iter F N hk5
    replace N := News.iter N (fun p hp' => by cases hp') hk5 hD4
    dsimp only at hys2
    rw [put_parts hx0 hz1 hz2 hy] at hys2
    k_steps
    exact (⟨rfl, _, _, rfl, fun b o hb e => F.keep _ _ (hide_keep hb e), _, _, (N _ (.head _)).1, hys2⟩ : IEnd n D ⟨x, y, z, t, u, v, zs⟩ ⟨h2, gens2, drawn2, tk2, os2⟩ .none ⟨_, gens2, drawn2, _, os2⟩)

set_option pp.deepTerms false in
theorem i2d_ok (G : Gd w lo mean mg mb g) (hg : ∀ b o, g.get? b = some o → s.heap.get? b = some o) (hP : g.get? 71 = none) (C : CodeHd g 75 71) (hA : Amb A 200) (hT : TabS 71 41 4 (Str.ofString "_int2digits.<locals>.inner") s.heap)
    {a n : Int} {ta tn : Tok} (ha : 0 ≤ a) (hab : Builtin.Int.intBits a ≤ 4096) (hn : 1 ≤ n ∧ n ≤ 64) {cnt : Nat} (hcnt : (cnt : Int) = ((Builtin.Int.intBits a : Int) + n - 1).fdiv n) (hc64 : cnt ≤ 64)
    {Q : Value → Shared → Prop} {E : Value → Shared → Prop} (hQ : ∀ D ys k s', KeepsBut [71] s s' → s.heap.get? D = none → s'.heap.get? D = some (listOf ys k) → IntsAre ys.toList (digs n cnt a) → TabS 71 41 4 (Str.ofString "_int2digits.<locals>.inner") s'.heap → Q (.ref D) s') :
    wpAny (model prog0 w) A (call (.ref 76) [.int a ta, .int n tn]) Q E s := by
  obtain ⟨ps, hp78, hps⟩ := hT
  have hgh : ∀ b o, g.get? b = some o → (hideAll s.heap [71]).get? b = some o := fun b o e => hide_keep (fun q => by rw [q, hP] at e; cases e) (hg b o e)
  have G1 : Gd w lo mean mg mb s.heap := G.keeps hg
  have G0 := G.keeps hgh
  have C0 := C.keeps hgh
  have KX := G0.X
  have T := G0.T
  have cf := cnt_facts hn.1 (by omega) hcnt
  refine wpAny_call ?_
  refine' enterC (k := 199) (binds := [(Str.ofString "a", .int a ta), (Str.ofString "n", .int n tn)]) G1 hA ?k6 ?k7 ?k9 ?kB ?c2 ?c3 ?c4 ?c5 ?c6 ?_
  (case k6 => k_is); (case k7 => exact rfl);  (case k9 => k_is); (case kB => exact rfl); (case c2 => intro L; exact kinds_of (by kinds_ok)); (case c3 => decide); (case c4 => exact rfl); (case c5 => exact rfl); (case c6 => exact rfl)
  obtain ⟨hp, gens, drawn, toks, os⟩ := s
  dsimp only at *
  intro L h₁ tk cells F N X0 hA'
  refine CellsAre.three X0 fun o1 o2 o3 q e1 e2 e3 => ?_
  subst q
  have l78 : @LT.lt Nat _ 71 L := Nat.lt_of_lt_of_le (Heap.lt_size hp78) F.above
  replace N := News.hide F N hp78
  replace F := Fr.hide (P := 71) F
  clear X0
  replace e1 : o1.data = .cell none := e1
  replace e2 : o2.data = .cell none := e2
  replace e3 : o3.data = .cell (some (.int n tn)) := e3
  simp only [List.cons_append, List.nil_append] at N
  rcases hps with rfl | ⟨c0, rfl, hrec⟩
  · w_top on
    k_steps
    · refine Stop.out ?_
      (with_reducible rename Fr _ _ _ _ => F); (with_reducible rename News _ _ _ _ => N)
      rename Obj.data _ = Data.fields _ => d1
      have hcr := codeRec_news N (by k_mem) d1 (by assumption)
      rename Obj.data _ = Data.cell (some (Value.ref _)) => e4
      have hcN2 := cell_of (c := L + 1) N e3 (by k_mem)
      have hcI2 := cell_of (c := L + 1 + 1 + 1) N e4 (by k_mem)
      revert e4
      rename Obj.data _ = Data.cell (some (Value.ref _)) => e5
      intro e4
      have hcD2 := cell_of (c := L + 1 + 1) N e5 (by k_mem)
      have hD := (N (_, listOf (List.toArray (List.flatten _)) _) (by k_mem)).1
      rename IntsAre _ (List.flatten _) => i1
      rename (List.flatten _).length = _ => e1l
      rename_i D k9 n1 s1 e2x e3x l1x k8 o2x f c oc vs tq ct dc k7 tk2 d2 l1y l2y k6 o4 ane
      rename 0 ≤ _ → _ = _ => e3l
      have hn1 : (n1 : Int) = cnt := by have := e3l (by omega); omega
      have hDn := (N (_, listOf (List.toArray (List.flatten _)) _) (by k_mem)).2.2
      have hfm := (N _ (.head _)).1
      dsimp only at hD hDn
      have Gq := G0.keeps fun b o e => hide_keep (fun q => by rw [q, hDn] at e; cases e) (F.keep b o e)
      refine i2d_rule (n := n) hD hfm hcr Gq.T.nolimit ?_ ?_ ?_ ?_ ?_ ?_ ?_ 64 ⟨_, _, _, _, _, _, _⟩ _ _ _ _ ?_ ?_ ⟨fun b o e => of_hideAll _ e, ?_, ?_, ?_, ?_, ?_, ?_, _, _, hD, i1⟩ ?_
      · intro a s; exact BindsTo.of_eq rfl
      · intro a; exact locs rfl
      · exact rfl
      · exact rfl
      · exact rfl
      · decide
      · exact i2d_step hn Gq hD ⟨_, _, _, _, hide_other hD hfm (fun q => by have := congrArg Obj.data q; cases this)⟩ hcN2 hcI2 hcD2
      · show ((n1 : Int) - 0).toNat ≤ 64
        omega
      · exact hA'.le (by decide)
      · exact Int.le_refl 0
      · show (0 : Int) < (n1 : Int)
        have := cf.2.1 (by have := bits_pos (show a ≠ 0 by assumption); omega)
        omega
      · show (n1 : Int) ≤ ((List.flatten _).length : Nat)
        rw [e1l]; exact Int.le_refl _
      · show (List.flatten _).length ≤ 64
        rw [e1l]; omega
      · exact ha
      · show a < 2 ^ (((n1 : Int) - 0).toNat * n.toNat)
        have e9 : ((n1 : Int) - 0).toNat = cnt := by omega
        rw [e9]
        exact digs_fit hn.1 ha cf.1
      · rintro v1 s'' hpk2
        refine gen_goal fun GX hGX => ?_
        obtain ⟨rfl, h3, tk3, rfl, hk4, ys1, k1, hD3, hys1⟩ := hpk2
        refine hGX ?_
        clear hGX
        dsimp only at hys1 hk4
        have e9 : ((n1 : Int) - 0).toNat = cnt := by omega
        rw [e9, put_all (by rw [digs_len, e1l]; omega)] at hys1
        have h71 := N (71, _) (by k_mem)
        dsimp only at h71
        obtain ⟨o71, hx71⟩ := name_obj h71.1
        rw [← hx71] at h71
        have hc2 := N (L + 1 + 1, o2x) (by k_mem)
        have hDm := N (D, _) (by k_mem)
        have hcr3 : h3.CodeRec _ _ := (codeRec_hide hD hcr).keeps fun b o e => hk4 b o (fun q => by rw [q, hideAll_none _ (.head _)] at e; cases e) (of_hideAll _ e)
        have nD1 : @Ne Nat (L + 1 + 1) D := by omega
        have nD2 : @Ne Nat 71 D := by omega
        have N3 : News (hideAll hp [71]) L h3 [(D, listOf ys1.toArray k1), (L + 1 + 1, o2x), (71, o71)] := by
          intro p hp'
          simp only [List.mem_cons, List.not_mem_nil, or_false] at hp'
          rcases hp' with rfl | rfl | rfl
          · exact ⟨hD3, hDm.2⟩
          · exact ⟨hk4 _ _ nD1 hc2.1, hc2.2⟩
          · exact ⟨hk4 _ _ nD2 h71.1, h71.2⟩
        have F3 : Fr (hideAll hp [71]) L h3 _ := ⟨F.ns.at' fun o e => hk4 _ _ hDm.2.1.symm e, fun b o e => hk4 b o (fun q => by rw [q, hDn] at e; cases e) (F.keep b o e), F.above⟩
        clear N F hfm hcN2 hcD2 hcI2 hD
        k_steps
        (with_reducible rename Fr _ _ _ _ => F3); (with_reducible rename News _ _ _ _ => N3)
        have hDn2 : hp.get? D = none := by
          cases e : hp.get? D with
          | none => rfl
          | some o => rw [hide_keep nD2.symm e] at hDn; cases hDn
        exact hQ D ys1.toArray k1 ⟨h3, gens, drawn, _, os⟩ ⟨_, _, rfl, fun b o hb e => F3.keep _ _ (hide_keep (by simpa using hb) e)⟩ hDn2 hD3 hys1 ⟨_, (N3 (71, o71) (by k_mem)).1.trans (congrArg some hx71), .inr ⟨_, rfl, hcr3⟩⟩
    · (with_reducible rename Fr _ _ _ _ => F); (with_reducible rename News _ _ _ _ => N)
      rename Obj.data _ = Data.fields _ => d1
      have hcr := codeRec_news N (by k_mem) d1 (by assumption)
      rename IntsAre _ (List.flatten _) => i1
      have hD := (N (_, listOf (List.toArray (List.flatten _)) _) (by k_mem)).1
      have hDn := (N (_, listOf (List.toArray (List.flatten _)) _) (by k_mem)).2.2
      dsimp only at hD hDn
      rename_i D k9 n1 s1 e1x e2x e3x l1x k8 o2x d2x f c oc vs tq ct dc k7 tk2 d2 l1y l2y k6 o4 d4 aeq
      have ha0 : a = 0 := by assumption
      have hc0 : cnt = 0 := cf.2.2 (by rw [ha0]; decide)
      rw [← hcnt, hc0] at i1
      rw [← hcnt, hc0] at hD
      have hD71 : @Ne Nat 71 D := by omega
      have hDn2 : hp.get? D = none := by
        cases e : hp.get? D with
        | none => rfl
        | some o => rw [hide_keep hD71.symm e] at hDn; cases hDn
      rw [hc0] at hQ
      exact hQ D _ _ _ ⟨_, _, rfl, fun b o hb e => F.keep _ _ (hide_keep (by simpa using hb) e)⟩ hDn2 hD i1 ⟨_, (N (71, _) (by k_mem)).1, .inr ⟨_, rfl, hcr⟩⟩
  · have hrec0 : (hideAll hp [71]).CodeRec (.ref c0) (Str.ofString "_int2digits.<locals>.inner") := hrec.at fun o e => hide_keep (codeNe hp78 (.inr ⟨_, rfl⟩) hrec) e
    w_top on
    k_steps
    · refine Stop.out ?_
      (with_reducible rename Fr _ _ _ _ => F); (with_reducible rename News _ _ _ _ => N)
      have hcr := hrec0.keeps F.keep
      rename Obj.data _ = Data.cell (some (Value.ref _)) => e4
      have hcN2 := cell_of (c := L + 1) N e3 (by k_mem)
      have hcI2 := cell_of (c := L + 1 + 1 + 1) N e4 (by k_mem)
      revert e4
      rename Obj.data _ = Data.cell (some (Value.ref _)) => e5
      intro e4
      have hcD2 := cell_of (c := L + 1 + 1) N e5 (by k_mem)
      have hD := (N (_, listOf (List.toArray (List.flatten _)) _) (by k_mem)).1
      rename IntsAre _ (List.flatten _) => i1
      rename (List.flatten _).length = _ => e1l
      rename_i D k9 n1 s1 e2x e3x l1x k8 o2x f ct dc k7 tk2 l1y k6 o4 ane
      rename 0 ≤ _ → _ = _ => e3l
      have hn1 : (n1 : Int) = cnt := by have := e3l (by omega); omega
      have hDn := (N (_, listOf (List.toArray (List.flatten _)) _) (by k_mem)).2.2
      have hfm := (N _ (.head _)).1
      dsimp only at hD hDn
      have Gq := G0.keeps fun b o e => hide_keep (fun q => by rw [q, hDn] at e; cases e) (F.keep b o e)
      refine i2d_rule (n := n) hD hfm hcr Gq.T.nolimit ?_ ?_ ?_ ?_ ?_ ?_ ?_ 64 ⟨_, _, _, _, _, _, _⟩ _ _ _ _ ?_ ?_ ⟨fun b o e => of_hideAll _ e, ?_, ?_, ?_, ?_, ?_, ?_, _, _, hD, i1⟩ ?_
      · intro a s; exact BindsTo.of_eq rfl
      · intro a; exact locs rfl
      · exact rfl
      · exact rfl
      · exact rfl
      · decide
      · exact i2d_step hn Gq hD ⟨_, _, _, _, hide_other hD hfm (fun q => by have := congrArg Obj.data q; cases this)⟩ hcN2 hcI2 hcD2
      · show ((n1 : Int) - 0).toNat ≤ 64
        omega
      · exact hA'.le (by decide)
      · exact Int.le_refl 0
      · show (0 : Int) < (n1 : Int)
        have := cf.2.1 (by have := bits_pos (show a ≠ 0 by assumption); omega)
        omega
      · show (n1 : Int) ≤ ((List.flatten _).length : Nat)
        rw [e1l]; exact Int.le_refl _
      · show (List.flatten _).length ≤ 64
        rw [e1l]; omega
      · exact ha
      · show a < 2 ^ (((n1 : Int) - 0).toNat * n.toNat)
        have e9 : ((n1 : Int) - 0).toNat = cnt := by omega
        rw [e9]
        exact digs_fit hn.1 ha cf.1
      · rintro v1 s'' hpk3
        refine gen_goal fun GX hGX => ?_
        obtain ⟨rfl, h3, tk3, rfl, hk4, ys1, k1, hD3, hys1⟩ := hpk3
        refine hGX ?_
        clear hGX
        dsimp only at hys1 hk4
        have e9 : ((n1 : Int) - 0).toNat = cnt := by omega
        rw [e9, put_all (by rw [digs_len, e1l]; omega)] at hys1
        have h71 := N (71, _) (by k_mem)
        dsimp only at h71
        obtain ⟨o71, hx71⟩ := name_obj h71.1
        rw [← hx71] at h71
        have hc2 := N (L + 1 + 1, o2x) (by k_mem)
        have hDm := N (D, _) (by k_mem)
        have hcr3 : h3.CodeRec _ _ := (codeRec_hide hD hcr).keeps fun b o e => hk4 b o (fun q => by rw [q, hideAll_none _ (.head _)] at e; cases e) (of_hideAll _ e)
        have nD1 : @Ne Nat (L + 1 + 1) D := by omega
        have nD2 : @Ne Nat 71 D := by omega
        have N3 : News (hideAll hp [71]) L h3 [(D, listOf ys1.toArray k1), (L + 1 + 1, o2x), (71, o71)] := by
          intro p hp'
          simp only [List.mem_cons, List.not_mem_nil, or_false] at hp'
          rcases hp' with rfl | rfl | rfl
          · exact ⟨hD3, hDm.2⟩
          · exact ⟨hk4 _ _ nD1 hc2.1, hc2.2⟩
          · exact ⟨hk4 _ _ nD2 h71.1, h71.2⟩
        have F3 : Fr (hideAll hp [71]) L h3 _ := ⟨F.ns.at' fun o e => hk4 _ _ hDm.2.1.symm e, fun b o e => hk4 b o (fun q => by rw [q, hDn] at e; cases e) (F.keep b o e), F.above⟩
        clear N F hfm hcN2 hcD2 hcI2 hD
        k_steps
        (with_reducible rename Fr _ _ _ _ => F3); (with_reducible rename News _ _ _ _ => N3)
        have hDn2 : hp.get? D = none := by
          cases e : hp.get? D with
          | none => rfl
          | some o => rw [hide_keep nD2.symm e] at hDn; cases hDn
        exact hQ D ys1.toArray k1 ⟨h3, gens, drawn, _, os⟩ ⟨_, _, rfl, fun b o hb e => F3.keep _ _ (hide_keep (by simpa using hb) e)⟩ hDn2 hD3 hys1 ⟨_, (N3 (71, o71) (by k_mem)).1.trans (congrArg some hx71), .inr ⟨_, rfl, hcr3⟩⟩
    · (with_reducible rename Fr _ _ _ _ => F); (with_reducible rename News _ _ _ _ => N)
      have hcr := hrec0.keeps F.keep
      rename IntsAre _ (List.flatten _) => i1
      have hD := (N (_, listOf (List.toArray (List.flatten _)) _) (by k_mem)).1
      have hDn := (N (_, listOf (List.toArray (List.flatten _)) _) (by k_mem)).2.2
      dsimp only at hD hDn
      rename_i D k9 n1 s1 e1x e2x e3x l1x k8 o2x d2x f ct dc k7 tk2 l1y k6 o4 d4 aeq
      have ha0 : a = 0 := by assumption
      have hc0 : cnt = 0 := cf.2.2 (by rw [ha0]; decide)
      rw [← hcnt, hc0] at i1
      rw [← hcnt, hc0] at hD
      have hD71 : @Ne Nat 71 D := by omega
      have hDn2 : hp.get? D = none := by
        cases e : hp.get? D with
        | none => rfl
        | some o => rw [hide_keep hD71.symm e] at hDn; cases hDn
      rw [hc0] at hQ
      exact hQ D _ _ _ ⟨_, _, rfl, fun b o hb e => F.keep _ _ (hide_keep (by simpa using hb) e)⟩ hDn2 hD i1 ⟨_, (N (71, _) (by k_mem)).1, .inr ⟨_, rfl, hcr⟩⟩
end
end Mine
end
end

section
open PySem PySem.W PySem.Calls PyProof.Rows
set_option Elab.async false
namespace Mine
set_option maxRecDepth 100000
set_option maxHeartbeats 8000000

theorem fillV1 (h : PySem.Challenge.rw_ta0035_01.about = [] → hd.heap_39 = hd.heap_39) : (PySem.Challenge.rw_ta0035_01.about = [] → hd.heap_39 = hd.heap_39) := by
  k_fill
  exact h

/-- a pair of ints -/
abbrev pairT (x : Int) (t : Tok) (y : Int) (u : Tok) : Obj := { cls := .type "tuple", data := .seq #[.int x t, .int y u] }

section
variable {w : World} {A : Around} {s : Shared} {lo : List Str} {mean : ExcName → Option Value} {mg mb : Str → Option Value} {g : Heap}

set_option pp.deepTerms false in
theorem div21_ok (G : Gd w lo mean mg mb s.heap) (hA : Amb A 8) {a b n : Int} {ta tb tn : Tok} (ha : 0 ≤ a ∧ a < 2 ^ 62) (hb : 1 ≤ b ∧ b < 2 ^ 30) (hn : 1 ≤ n ∧ n ≤ 64)
    {Q : Value → Shared → Prop} {E : Value → Shared → Prop} (hQ : ∀ D t u s', Keeps s s' → s'.heap.get? D = some (pairT (a / b) t (a % b) u) → s.heap.get? D = none → Q (.ref D) s') :
    wpAny (model prog0 w) A (call (.ref 62) [.int a ta, .int b tb, .int n tn]) Q E s := by
  refine wpAny_call ?_
  have KX := G.X
  refine' enter (k := 7) (binds := [(Str.ofString "a", .int a ta), (Str.ofString "b", .int b tb), (Str.ofString "n", .int n tn)]) G hA ?k6 ?k7 ?k9 ?kB ?c2 ?c3 ?c4 ?c5 ?_
  (case k6 => k_is); (case k7 => k_is);  (case k9 => exact BindsTo.of_eq rfl); (case c5 => decide); (case kB => exact locs rfl); (case c2 => exact rfl); (case c3 => exact rfl); (case c4 => exact rfl)
  have T := G.T
  obtain ⟨hp, gens, drawn, toks, os⟩ := s
  dsimp only at *
  intro L h₁ tk F N hA'
  have hbits : Builtin.Int.intBits a ≤ 62 := intBits_lt ha.1 ha.2
  w_top on
  k_steps
  refine Stop.out ?_
  (with_reducible rename Fr _ _ _ _ => F)
  refine divmod_int (by omega) ?_ (Or.inl (PyProof.noPylong_small (by omega)))
  rw [Int.fdiv_eq_ediv_of_nonneg _ (by omega), Int.fmod_eq_emod_of_nonneg _ (by omega)]
  k_steps
  refine hQ _ _ _ ⟨_, gens, drawn, _, os⟩ ⟨_, _, rfl, fun b o e => Heap.get?_push_of_some _ (F.keep b o e)⟩ (Heap.get?_push_size _ rfl) ?_
  cases e : hp.get? h₁.objs.size with
  | none => rfl
  | some o => exact absurd (Heap.lt_size (F.keep _ _ e)) (Nat.lt_irrefl _)
end
end Mine
end

section
open PySem PySem.W PySem.Calls PyProof.Rows
set_option Elab.async false
namespace Mine
set_option maxRecDepth 100000
set_option maxHeartbeats 8000000

theorem fillV2 (h : PySem.Challenge.rw_ta0035_01.about = [] → hd.heap_39 = hd.heap_39) : (PySem.Challenge.rw_ta0035_01.about = [] → hd.heap_39 = hd.heap_39) := by
  k_fill
  exact h

section
variable {prog : Program} {w : World} {A : Around} {gens : Array GenState} {drawn : Drawn} {os : OsState} {tk : Nat}
  {g hp : Heap} {L : Addr} {m : Str → Option Value} {news : List (Addr × Obj)} {env : Env} {x : Str} {px : Pos} {body : List Stmt} {Q : Flow → Shared → Prop}

/-- for x in reversed(list) -/
theorem for_rev {I l : Addr} {oI : Obj} {vs : List Value} (hh : A.handled = none) (F : Fr g L hp m) (N : News g L hp ((I, oI) :: news)) (hI : hp.IsRevIter I l ((vs.length : Int) - 1)) (hne : ∀ p ∈ news, p.1 ≠ I) (J : Nat → (Str → Option Value) → List (Addr × Obj) → Prop)
    (hJl : ∀ k m' news', J k m' news' → ∃ n, (l, listOf vs.toArray n) ∈ news')
    (start : J 0 m news)
    (turn : ∀ (k : Nat) v m' news' h' tk' o, k < vs.length → vs[vs.length - 1 - k]? = some v → J k m' news' → Fr g L h' m' → News g L h' ((I, o) :: news') → (∀ p ∈ news', p.1 ≠ I) →
      wpAny (model prog w) A (assign (.Name x px) env v) (fun _ s₂ => wpAny (model prog w) A (execs body env) (FEnd J g L I o gens drawn os k Q) (fun _ _ => False) s₂) (fun _ _ => False) ⟨h', gens, drawn, tk', os⟩)
    (done : ∀ m' news' h' tk', J vs.length m' news' → Fr g L h' m' → News g L h' news' → Q .next ⟨h', gens, drawn, tk', os⟩) :
    codeAny (model prog w) (A.mark none) (.forLoop (.Name x px) (.ref I) body [] env)
      (fun r s' => match r with | .ok f => Q f s' | .error e => cameBackBy (model prog w) A env (fun _ _ => False) e s') ⟨hp, gens, drawn, tk, os⟩ := by
  refine codeAny_forLoop (fun j s' => ∃ (k : Nat) (m' : Str → Option Value) (news' : List (Addr × Obj)) (h' : Heap) (tk' : Nat) (o : Obj), s' = ⟨h', gens, drawn, tk', os⟩ ∧ j = vs.length - k ∧ k ≤ vs.length ∧ J k m' news' ∧ Fr g L h' m' ∧
      News g L h' ((I, o) :: news') ∧ h'.IsRevIter I l ((vs.length : Int) - 1 - (k : Int)) ∧ (∀ p ∈ news', p.1 ≠ I)) ?_ vs.length
      ⟨0, m, news, _, _, oI, rfl, rfl, Nat.zero_le _, start, F, N, by simpa using hI, hne⟩
  rintro j s' hpk1
  refine gen_goal fun GX hGX => ?_
  obtain ⟨k, m', news', h', tk', o, rfl, rfl, hk, hJ, F', N', hit, hne⟩ := hpk1
  refine hGX ?_
  clear hGX
  obtain ⟨nl, hml⟩ := hJl k m' news' hJ
  have hl : h'.IsList l vs.toArray := ⟨_, (N' _ (.tail _ hml)).1, rfl, nl, rfl⟩
  by_cases hlt : k < vs.length
  · have e : (vs.length : Int) - 1 - (k : Int) = ((vs.length - 1 - k : Nat) : Int) := by omega
    rw [e] at hit
    have hlt2 : vs.length - 1 - k < vs.length := by omega
    have hv : vs[vs.length - 1 - k]? = some vs[vs.length - 1 - k] := List.getElem?_eq_getElem hlt2
    refine wpAny_pyNext_rev_item hit hl (x := vs[vs.length - 1 - k]) (by simpa using hv) fun h1 hit1 hs1 => ?_
    have hk1 : ∀ b o, b ≠ I → h'.get? b = some o → h1.get? b = some o := fun b o hb e => (hs1.2 b hb).trans e
    obtain ⟨o1, ho1, hr1⟩ := id hit1
    have F1 := Fr.iter F' N' hk1
    have N1 := News.iter N' hne hk1 ho1
    have t := turn k _ m' news' h1 tk' o1 hlt hv hJ F1 N1 hne
    refine wpAny_mono t (fun _ s₂ h₂ => wpAny_mono h₂ (fun f s₃ h₃ => ?_) fun _ _ e => e.elim) fun _ _ e => e.elim
    have nx : (∃ m' news' h' tk', s₃ = ⟨h', gens, drawn, tk', os⟩ ∧ J (k + 1) m' news' ∧ Fr g L h' m' ∧ News g L h' ((I, o1) :: news') ∧ (∀ p ∈ news', p.1 ≠ I)) →
        ∃ m, m < vs.length - k ∧ ∃ (k : Nat) (m' : Str → Option Value) (news' : List (Addr × Obj)) (h' : Heap) (tk' : Nat) (o : Obj), s₃ = ⟨h', gens, drawn, tk', os⟩ ∧ m = vs.length - k ∧ k ≤ vs.length ∧ J k m' news' ∧ Fr g L h' m' ∧
          News g L h' ((I, o) :: news') ∧ h'.IsRevIter I l ((vs.length : Int) - 1 - (k : Int)) ∧ (∀ p ∈ news', p.1 ≠ I) := by
      rintro hpk2
      refine gen_goal fun GX hGX => ?_
      obtain ⟨m2, news2, h2, tk2, rfl, hJ2, F3, N3, hne2⟩ := hpk2
      refine hGX ?_
      clear hGX
      refine ⟨vs.length - (k + 1), sub_step (by assumption), k + 1, m2, news2, h2, tk2, o1, rfl, rfl, hlt, hJ2, F3, N3, ⟨o1, (N3 _ (.head _)).1, ?_⟩, hne2⟩
      have e1 : ((vs.length - 1 - k : Nat) : Int) - 1 = (vs.length : Int) - 1 - ((k + 1 : Nat) : Int) := by omega
      rw [e1] at hr1
      exact hr1
    cases f with
    | next => exact nx h₃
    | cont => exact nx h₃
    | brk => exact h₃
    | ret v => exact h₃
  · have e : k = vs.length := by omega
    subst e
    have e2 : (vs.length : Int) - 1 - (vs.length : Int) = -1 := by omega
    rw [e2] at hit
    refine wpAny_pyNext_rev_end (A := A.mark none) hh hit fun h1 he1 => ?_
    have hk1 : ∀ b o, b ≠ I → h'.get? b = some o → h1.get? b = some o := fun b o hb e => he1 b o hb e
    refine wpAny_execs_nil (done m' news' h1 _ hJ (Fr.iter F' N' hk1) fun p hp' => ?_)
    exact ⟨hk1 _ _ (hne p hp') (N' p (.tail _ hp')).1, (N' p (.tail _ hp')).2⟩
end

/-- what the makers' tables are -/
structure Tabs (w : World) (lo : List Str) (mean : ExcName → Option Value) (mg mb : Str → Option Value) (g : Heap) : Prop where
  G : Gd w lo mean mg mb g
  n71 : g.get? 71 = none
  n78 : g.get? 78 = none
  c71 : CodeHd g 75 71
  c78 : CodeHd g 82 78

abbrev T71 (h : Heap) : Prop := TabS 71 41 4 (Str.ofString "_int2digits.<locals>.inner") h
abbrev T78 (h : Heap) : Prop := TabS 78 56 4 (Str.ofString "_digits2int.<locals>.inner") h

theorem TabS.keeps {P Q : Addr} {line col : Int} {q : Str} {h h' : Heap} (hPQ : P ≠ Q) {o : Obj} (hQ : h.get? Q = some o) (hnc : ∀ vs (t : Tok) q, o.data = .fields vs → vs[1]? ≠ some (.str q t)) (x : TabS P line col q h) (hk : ∀ b o, b ≠ Q → h.get? b = some o → h'.get? b = some o) : TabS P line col q h' := by
  obtain ⟨ps, e, hps⟩ := x
  refine ⟨ps, hk _ _ hPQ e, ?_⟩
  rcases hps with rfl | ⟨c, rfl, hr⟩
  · exact .inl rfl
  · refine .inr ⟨c, rfl, hr.at fun o' e' => hk _ _ (fun q => ?_) e'⟩
    obtain ⟨c2, o2, vs, t, e1, e2, e3, e4⟩ := hr
    cases e1
    rw [q, hQ] at e2
    cases e2
    exact hnc _ _ _ e3 e4

theorem TabS.nocode {P : Addr} {line col : Int} {q : Str} {h : Heap} (x : TabS P line col q h) : ∃ o, h.get? P = some o ∧ ∀ vs (t : Tok) q, o.data = .fields vs → vs[1]? ≠ some (.str q t) := by
  obtain ⟨ps, e, hps⟩ := x
  refine ⟨_, e, fun vs t q hd hv => ?_⟩
  cases hd
  rcases hps with rfl | ⟨c, rfl, hr⟩
  · cases hv
  · cases hv
end Mine
end

section
open PySem PySem.W PySem.Calls PyProof.Rows
set_option Elab.async false
namespace Mine
set_option maxRecDepth 100000
set_option maxHeartbeats 8000000

theorem fillV3 (h : PySem.Challenge.rw_ta0035_01.about = [] → hd.heap_39 = hd.heap_39) : (PySem.Challenge.rw_ta0035_01.about = [] → hd.heap_39 = hd.heap_39) := by
  k_fill
  exact h

theorem TabS.move {P Q : Addr} {line col : Int} {q : Str} {h h' : Heap} (x : TabS P line col q h) (y : ∃ o, h.get? Q = some o ∧ ∀ vs (t : Tok) q, o.data = .fields vs → vs[1]? ≠ some (.str q t)) (hP : ∀ o, h.get? P = some o → h'.get? P = some o)
    (hk : ∀ b o, b ≠ P → b ≠ Q → h.get? b = some o → h'.get? b = some o) : TabS P line col q h' := by
  obtain ⟨ps, e, hps⟩ := x
  refine ⟨ps, hP _ e, ?_⟩
  rcases hps with rfl | ⟨c, rfl, hr⟩
  · exact .inl rfl
  · refine .inr ⟨c, rfl, hr.at fun o' e' => hk _ _ (codeNe e (.inr ⟨_, rfl⟩) hr) (fun q => ?_) e'⟩
    obtain ⟨oQ, y1, y2⟩ := y
    obtain ⟨c2, o2, vs, t, e1, e2, e3, e4⟩ := hr
    cases e1
    rw [q, y1] at e2
    cases e2
    exact y2 _ _ _ e3 e4

/-- the code that a maker has made, as a ledger -/
theorem tab_tail {P L : Addr} {line col : Int} {q : Str} {g h : Heap} {m : Str → Option Value} (F : Fr g L h m) (x : TabS P line col q h) :
    ∃ oP tl, h.get? P = some oP ∧ News g L h tl ∧ (∀ p ∈ tl, p.1 < h.objs.size) ∧ (∀ p ∈ tl, ∃ vs, ∃ t : Tok, ∃ q, p.2.data = .fields vs ∧ vs[1]? = some (.str q t)) ∧
      (∀ h' : Heap, (∀ b o, g.get? b = some o → h'.get? b = some o) → (∀ p ∈ tl, h'.get? p.1 = some p.2) → h'.get? P = some oP → TabS P line col q h') := by
  obtain ⟨ps, e, hps⟩ := x
  rcases hps with rfl | ⟨c, rfl, hr⟩
  · exact ⟨_, [], e, News.nil, (fun p hp => by cases hp), (fun p hp => by cases hp), fun h' _ _ hP => ⟨_, hP, .inl rfl⟩⟩
  · have hr2 := hr
    obtain ⟨c2, o, vs, t, e1, e2, e3, e4⟩ := hr2
    cases e1
    cases hg : g.get? c with
    | some o2 =>
      have : o2 = o := by have := F.keep _ _ hg; rw [e2] at this; exact (Option.some.inj this).symm
      subst this
      exact ⟨_, [], e, News.nil, (fun p hp => by cases hp), (fun p hp => by cases hp), fun h' hk _ hP => ⟨_, hP, .inr ⟨c, rfl, c, _, vs, t, rfl, hk _ _ hg, e3, e4⟩⟩⟩
    | none =>
      refine ⟨_, [(c, o)], e, fun p hp => ?_, fun p hp => ?_, (fun p hp => by rcases List.mem_cons.mp hp with rfl | hp <;> first | exact ⟨vs, t, _, e3, e4⟩ | cases hp), fun h' hk ht hP => ⟨_, hP, .inr ⟨c, rfl, c, _, vs, t, rfl, ht (c, o) (.head _), e3, e4⟩⟩⟩
      · rcases List.mem_cons.mp hp with rfl | hp
        · refine ⟨e2, fun q => ?_, hg⟩
          obtain ⟨oL, es, ep, hL, hd, _⟩ := F.ns
          have q' : c = L := q
          rw [← q', e2] at hL
          cases hL
          rw [hd] at e3; cases e3
        · cases hp
      · rcases List.mem_cons.mp hp with rfl | hp
        · exact Heap.lt_size e2
        · cases hp

/-- after a call that touches a table alone -/
theorem Fr.but {g h h' : Heap} {L P : Addr} {m : Str → Option Value} (F : Fr g L h m) (hP : g.get? P = none) (hL : P ≠ L) (hk : ∀ b o, b ∉ [P] → h.get? b = some o → h'.get? b = some o) : Fr g L h' m := by
  have hk' : ∀ b o, b ≠ P → h.get? b = some o → h'.get? b = some o := fun b o hb e => hk b o (fun q => by
    rcases List.mem_cons.mp q with q | q
    · exact hb q
    · cases q) e
  exact ⟨F.ns.at' fun o e => hk' _ _ hL.symm e, fun b o e => hk' _ _ (fun q => by rw [q, hP] at e; cases e) (F.keep b o e), F.above⟩

theorem dv_digs (n : Int) : ∀ (c : Nat) (x : Int), 0 ≤ x → x < 2 ^ (c * n.toNat) → dv n (digs n c x) = x
  | 0, x, h0, h1 => by
    rw [Nat.zero_mul] at h1
    show (0 : Int) = x
    have : (2 : Int) ^ 0 = 1 := rfl
    omega
  | c + 1, x, h0, h1 => by
    have hp : (0 : Int) < 2 ^ n.toNat := Int.pow_pos (by decide)
    rw [digs, dv, dv_digs n c (x / 2 ^ n.toNat) (Int.ediv_nonneg h0 (Int.le_of_lt hp)) (Int.ediv_lt_of_lt_mul hp (by rw [← Int.pow_add, ← Nat.succ_mul]; exact h1))]
    have := Int.mul_ediv_add_emod x (2 ^ n.toNat)
    omega

theorem digs_small (n : Int) : ∀ (c : Nat) (x : Int), ∀ d ∈ digs n c x, 0 ≤ d ∧ d < 2 ^ n.toNat
  | 0, x, d, h => by cases h
  | c + 1, x, d, h => by
    have hp : (0 : Int) < 2 ^ n.toNat := Int.pow_pos (by decide)
    rcases List.mem_cons.mp h with rfl | h
    · exact ⟨Int.emod_nonneg _ (Int.ne_of_gt hp), Int.emod_lt_of_pos _ hp⟩
    · exact digs_small n c _ d h

theorem cnt_le {B n : Int} (hn : 1 ≤ n) (hB : 0 ≤ B) : 0 ≤ (B + n - 1).fdiv n ∧ (B + n - 1).fdiv n ≤ B := by
  rw [Int.fdiv_eq_ediv_of_nonneg _ (by omega)]
  refine ⟨Int.ediv_nonneg (by omega) (by omega), ?_⟩
  rcases Int.lt_or_le 0 B with h | h
  · have e : B + n - 1 = (B - 1) + n * 1 := by omega
    rw [e, Int.add_mul_ediv_left _ _ (by omega)]
    have := Int.ediv_le_self n (show 0 ≤ B - 1 by omega)
    omega
  · have e : B = 0 := by omega
    subst e
    rw [Int.ediv_eq_zero_of_lt (by omega) (by omega)]
    exact Int.le_refl 0

/-- the ledger with what a call has made -/
theorem News.made {g h h' : Heap} {L D : Addr} {m : Str → Option Value} {news : List (Addr × Obj)} {o : Obj} (F : Fr g L h m) (N : News g L h news) (hk : ∀ b o, h.get? b = some o → h'.get? b = some o) (hn : h.get? D = none) (hD : h'.get? D = some o) :
    Fr g L h' m ∧ News g L h' ((D, o) :: news) ∧ ∀ p ∈ news, p.1 ≠ D := by
  refine ⟨Fr.keepsAll F hk, fun p hp => ?_, fun p hp q => ?_⟩
  · rcases List.mem_cons.mp hp with rfl | hp
    · refine ⟨hD, fun q => ?_, ?_⟩
      · obtain ⟨oL, _, _, hL, _⟩ := F.ns
        have q' : D = L := q
        rw [q', hL] at hn; cases hn
      · cases e : g.get? D with
        | none => rfl
        | some o' => rw [F.keep _ _ e] at hn; cases hn
    · exact ⟨hk _ _ (N p hp).1, (N p hp).2⟩
  · have := (N p hp).1
    rw [q, hn] at this; cases this

theorem allLt_mem {d : Nat} {l : List (Addr × Obj)} (h : AllLt d l) (p : Addr × Obj) (hp : p ∈ l) : @LT.lt Nat _ p.1 d := by
  induction l with
  | nil => cases hp
  | cons q r ih =>
    rcases List.mem_cons.mp hp with e | hp
    · rw [e]; exact h.1
    · exact ih h.2 hp

theorem ints_rev {vs : List Value} {ns : List Int} (h : IntsAre vs ns) : IntsAre vs.reverse ns.reverse := by
  induction h with
  | nil => exact .nil
  | cons n t hr ih => rw [List.reverse_cons, List.reverse_cons]; exact IntsAre.append ih (.cons _ _ .nil)

theorem name_a {a b : Nat} {P : Prop} (_ : a < b ∧ P) : ∃ c, c = a := ⟨a, rfl⟩
theorem name_b {a b : Nat} {P : Prop} (_ : a < b ∧ P) : ∃ c, c = b := ⟨b, rfl⟩

/-- a step of the long division -/
theorem div_step {x b d k : Int} (hk : 0 < k) (hb : 0 < b) (hx : 0 ≤ x) (hd : 0 ≤ d ∧ d < k) :
    (x % b * k + d) / b + k * (x / b) = (d + k * x) / b ∧ (x % b * k + d) % b = (d + k * x) % b ∧ 0 ≤ (x % b * k + d) / b ∧ (x % b * k + d) / b < k := by
  have h1 := Int.mul_ediv_add_emod x b
  have e : d + k * x = (x % b * k + d) + b * (k * (x / b)) := by
    have : k * x = k * (b * (x / b) + x % b) := by rw [h1]
    rw [this]; grind
  have h2 := Int.emod_nonneg x (Int.ne_of_gt hb)
  have h3 := Int.emod_lt_of_pos x hb
  have h4 : 0 ≤ x % b * k := Int.mul_nonneg h2 (Int.le_of_lt hk)
  refine ⟨?_, ?_, Int.ediv_nonneg (by omega) (Int.le_of_lt hb), ?_⟩
  · rw [e, Int.add_mul_ediv_left _ _ (Int.ne_of_gt hb)]
  · rw [e, Int.add_mul_emod_self_left]
  · refine Int.ediv_lt_of_lt_mul hb ?_
    have h5 : (x % b + 1) * k ≤ b * k := Int.mul_le_mul_of_nonneg_right (by omega) (Int.le_of_lt hk)
    rw [Int.add_mul, Int.one_mul] at h5
    have : b * k = k * b := Int.mul_comm ..
    omega

section
variable {w : World} {A : Around} {s : Shared} {lo : List Str} {mean : ExcName → Option Value} {mg mb : Str → Option Value} {g : Heap}

set_option pp.deepTerms false in
theorem dpos_ok (B : Tabs w lo mean mg mb g) (hg : ∀ b o, g.get? b = some o → s.heap.get? b = some o) (h71 : T71 s.heap) (h78 : T78 s.heap) (hA : Amb A 210) {a b : Int} {ta tb : Tok} (ha : 0 ≤ a ∧ a < 2 ^ 40) (hb : 1 ≤ b ∧ b < 2 ^ 30)
    {Q : Value → Shared → Prop} {E : Value → Shared → Prop} (hQ : ∀ D t u s', KeepsBut [71, 78] s s' → T71 s'.heap → T78 s'.heap → s'.heap.get? D = some (pairT (a / b) t (a % b) u) → s.heap.get? D = none → Q (.ref D) s') :
    wpAny (model prog0 w) A (call (.ref 90) [.int a ta, .int b tb]) Q E s := by
  obtain ⟨o71, p71, nc71⟩ := h71.nocode
  obtain ⟨o78, p78, nc78⟩ := h78.nocode
  have G1 : Gd w lo mean mg mb s.heap := B.G.keeps hg
  refine wpAny_call ?_
  refine' enter (k := 209) (binds := [(Str.ofString "a", .int a ta), (Str.ofString "b", .int b tb)]) G1 hA ?k6 ?k7 ?k9 ?kB ?c2 ?c3 ?c4 ?c5 ?_
  (case k6 => k_is); (case k7 => k_is);  (case k9 => exact BindsTo.of_eq rfl); (case c5 => decide); (case kB => exact locs rfl); (case c2 => exact rfl); (case c3 => exact rfl); (case c4 => exact rfl)
  obtain ⟨hp, gens, drawn, toks, os⟩ := s
  dsimp only at *
  intro L h₁ tk F N hA'
  have p78' : (hideAll hp [71]).get? 78 = some o78 := hide_keep (by decide) p78
  have hgh : ∀ b o, g.get? b = some o → (hideAll (hideAll hp [71]) [78]).get? b = some o := fun b o e => hide_keep (fun q => by rw [q, B.n78] at e; cases e) (hide_keep (fun q => by rw [q, B.n71] at e; cases e) (hg b o e))
  have KX := (B.G.keeps hgh).X
  have T := (B.G.keeps hgh).T
  have x71 := F.keep _ _ p71
  replace N := News.hide F N p71
  replace F := Fr.hide (P := 71) F
  replace N := News.hide F N p78'
  replace F := Fr.hide (P := 78) F
  simp only [List.cons_append, List.nil_append] at N
  have hbits : Builtin.Int.intBits b ≤ 30 := intBits_lt (by omega) hb.2
  have hbits1 := bits_pos (show b ≠ 0 by omega)
  w_top on
  k_steps
  refine Stop.out ?_
  (with_reducible rename Fr _ _ _ _ => F); (with_reducible rename News _ _ _ _ => N)
  obtain ⟨n, hn⟩ : ∃ n : Int, n = (Builtin.Int.intBits b : Int) := ⟨_, rfl⟩
  rw [← hn] at F ⊢
  have hn1 : 1 ≤ n ∧ n ≤ 64 := by omega
  have habits : Builtin.Int.intBits a ≤ 40 := intBits_lt ha.1 ha.2
  have hcl := cnt_le (n := n) (B := Builtin.Int.intBits a) hn1.1 (by omega)
  obtain ⟨cnt, hcnt⟩ : ∃ cnt : Nat, (cnt : Int) = ((Builtin.Int.intBits a : Int) + n - 1).fdiv n := ⟨_, Int.toNat_of_nonneg hcl.1⟩
  have cf := cnt_facts hn1.1 (by omega) hcnt
  have hfit := digs_fit hn1.1 ha.1 cf.1
  have hbn : b < 2 ^ n.toNat := by rw [hn, Int.toNat_natCast]; exact lt_bits (by omega)
  refine i2d_ok B.G (fun b o e => F.keep _ _ (hgh _ _ e)) B.n71 B.c71 (hA'.le (by decide)) ?_ ha.1 (by omega) hn1 hcnt (by omega) ?_
  · exact h71.move ⟨_, p78, nc78⟩ (fun o e => by rw [p71] at e; cases e; exact (N (71, o71) (by k_mem)).1) fun b o h1 h2 e => F.keep _ _ (hide_keep h2 (hide_keep h1 e))
  rintro D ys kl s' ⟨h2, tk2, rfl, hk2⟩ hDn hD hys t71
  obtain ⟨vs, rfl⟩ : ∃ vs : List Value, ys = vs.toArray := ⟨ys.toList, rfl⟩
  replace hys : IntsAre vs (digs n cnt a) := hys
  dsimp only at hDn hD t71 hk2
  have F2 := Fr.but (P := 71) F (hide_none (hideAll_none _ (.head _))) (N (71, o71) (by k_mem)).2.1 hk2
  have g78 : h2.get? 78 = some o78 := hk2 _ _ (by decide) (N (78, o78) (by k_mem)).1
  have N78 := (N (78, o78) (by k_mem)).2
  have N71 := (N (71, o71) (by k_mem)).2
  have t78 : T78 h2 := h78.move ⟨_, p71, nc71⟩ (fun o e => by rw [p78] at e; cases e; exact g78) fun b o h1 h2 e => F2.keep _ _ (hide_keep h1 (hide_keep h2 e))
  refine gen_goal fun GX hGX => ?_
  obtain ⟨q71, tl, e71, Ntl, ltl, ctl, htl⟩ := tab_tail F2 t71
  refine hGX ?_
  clear hGX
  have hDL : D ≠ L := fun q => by
    obtain ⟨oL, _, _, hL, _⟩ := F.ns
    rw [q, hL] at hDn; cases hDn
  have hD0 : (hideAll (hideAll hp [71]) [78]).get? D = none := by
    cases e : (hideAll (hideAll hp [71]) [78]).get? D with
    | none => rfl
    | some o => rw [F.keep _ _ e] at hDn; cases hDn
  have N2 : News (hideAll (hideAll hp [71]) [78]) L h2 ((D, listOf vs.toArray kl) :: (71, q71) :: (78, o78) :: tl) := by
    intro p hp'
    rcases List.mem_cons.mp hp' with rfl | hp'
    · exact ⟨hD, hDL, hD0⟩
    · rcases List.mem_cons.mp hp' with rfl | hp'
      · exact ⟨e71, N71⟩
      · rcases List.mem_cons.mp hp' with rfl | hp'
        · exact ⟨g78, N78⟩
        · exact Ntl p hp'
  clear N F Ntl
  have hdl : (digs n cnt a).length ≤ 40 := by rw [digs_len]; omega
  have hds := digs_small n cnt a
  have hdv := dv_digs n cnt a ha.1 hfit
  generalize digs n cnt a = ds at *
  k_steps
  refine Stop.out ?_
  refine wpAny_For ?_
  k_steps
  (with_reducible rename Fr _ _ _ _ => F); (with_reducible rename News _ _ _ _ => N)
  rename _ < _ ∧ _ => l1
  rename_i Ql k3 j1 k2 I k0
  revert l1
  rename _ < _ ∧ _ => l2
  intro l1
  have hQrest : ∀ p ∈ (D, listOf vs.toArray kl) :: (71, q71) :: (78, o78) :: tl, p.1 ≠ Ql := by
    intro p hp'
    rcases List.mem_cons.mp hp' with rfl | hp'
    · exact Nat.ne_of_lt l2.1
    · rcases List.mem_cons.mp hp' with rfl | hp'
      · exact Nat.ne_of_lt l2.2.1
      · rcases List.mem_cons.mp hp' with rfl | hp'
        · exact Nat.ne_of_lt l2.2.2.1
        · exact Nat.ne_of_lt (allLt_mem l2.2.2.2 p hp')
  have hneI : ∀ p ∈ (Ql, listOf #[] 0) :: (D, listOf vs.toArray kl) :: (71, q71) :: (78, o78) :: tl, p.1 ≠ I := by
    intro p hp'
    rcases List.mem_cons.mp hp' with rfl | hp'
    · exact Nat.ne_of_lt l1.1
    · rcases List.mem_cons.mp hp' with rfl | hp'
      · exact Nat.ne_of_lt l1.2.1
      · rcases List.mem_cons.mp hp' with rfl | hp'
        · exact Nat.ne_of_lt l1.2.2.1
        · rcases List.mem_cons.mp hp' with rfl | hp'
          · exact Nat.ne_of_lt l1.2.2.2.1
          · exact Nat.ne_of_lt (allLt_mem l1.2.2.2.2 p hp')
  refine wpAny_pyIter_revIter (l := D) (i := (vs.length : Int) - 1) ⟨_, (N _ (.head _)).1, rfl, rfl⟩ ?_
  refine for_rev (l := D) (vs := vs) hA'.hh F N ⟨_, (N _ (.head _)).1, rfl, rfl⟩ hneI (fun k m' news' => ∃ (qvs : List Value) (ql : List Int) (r : Int) (tr : Tok) (nq : Nat) (tn : Tok), news' = (Ql, listOf qvs.toArray nq) :: (D, listOf vs.toArray kl) :: (71, q71) :: (78, o78) :: tl ∧ IntsAre qvs ql ∧
    m' (Str.ofString "r") = some (.int r tr) ∧ m' (Str.ofString "q_digits") = some (.ref Ql) ∧ m' (Str.ofString "b") = some (.int b tb) ∧ m' (Str.ofString "n") = some (.int n tn) ∧
    r = dv n (ds.drop (ds.length - k)) % b ∧ dv n ql.reverse = dv n (ds.drop (ds.length - k)) / b ∧ (∀ q ∈ ql, 0 ≤ q ∧ q < 2 ^ n.toNat) ∧ ql.length = k) ?_ ?_ ?_ ?_
  · rintro k m' news' ⟨qvs, ql, r, tr, nq, tn, rfl, _⟩
    exact ⟨kl, .tail _ (.head _)⟩
  · refine ⟨[], [], 0, _, 0, _, rfl, .nil, rfl, rfl, rfl, rfl, ?_, ?_, (fun q hq => by cases hq), rfl⟩
    · rw [Nat.sub_zero, List.drop_length]; rfl
    · rw [Nat.sub_zero, List.drop_length]; simp [dv]
  · rintro k v m' news' h' tk' o hk hv hpk1 F N hneI
    refine gen_goal fun GX hGX => ?_
    obtain ⟨qvs, ql, r, tr, nq, tn, rfl, hq, em1, em2, em3, em4, hr, hqv, hqb, hql⟩ := hpk1
    refine hGX ?_
    clear hGX
    obtain ⟨d, hd, td, rfl⟩ := hys.areOf.get _ _ hv
    refine wpAny_assign_Name (storeX_L F N (fun h'' F N => ?_))
    k_steps
    refine Stop.out ?_
    have hlen := IntsAre.length hys
    have hpn : (0 : Int) < 2 ^ n.toNat := Int.pow_pos (by decide)
    have hpn2 : (2 : Int) ^ n.toNat ≤ 2 ^ 30 := by
      have h2 : 2 ^ n.toNat ≤ 2 ^ 30 := Nat.pow_le_pow_right (by decide) (Int.toNat_le.mpr (hn ▸ Int.ofNat_le.mpr hbits))
      have e : ∀ k : Nat, (2 : Int) ^ k = ((2 ^ k : Nat) : Int) := fun k => by push_cast; rfl
      rw [e]
      exact Int.ofNat_le.mpr h2
    have hdm : d ∈ ds := List.mem_of_getElem? hd
    have hd2 := hds d hdm
    have hx0 : 0 ≤ dv n (ds.drop (ds.length - k)) := (dv_bound fun x hx => hds x (List.mem_of_mem_drop hx)).1
    have hb0 : 0 < b := Int.lt_of_lt_of_le (by decide) hb.1
    have hr0 : 0 ≤ r ∧ r < b := by rw [hr]; exact ⟨Int.emod_nonneg _ (Int.ne_of_gt hb0), Int.emod_lt_of_pos _ hb0⟩
    have hrb : Builtin.Int.intBits r ≤ 30 := intBits_lt hr0.1 (Int.lt_trans hr0.2 hb.2)
    refine lshift_int (Int.le_trans (by decide) hn1.1) (Int.le_trans (Int.add_le_add (Int.ofNat_le.mpr hrb) hn1.2) (by decide)) ?_
    have hmul : r * 2 ^ n.toNat + d < 2 ^ 62 ∧ 0 ≤ r * 2 ^ n.toNat := by
      have h1 : (r + 1) * 2 ^ n.toNat ≤ b * 2 ^ n.toNat := Int.mul_le_mul_of_nonneg_right hr0.2 (Int.le_of_lt hpn)
      have h2 : b * 2 ^ n.toNat ≤ 2 ^ 30 * 2 ^ 30 := Int.mul_le_mul (Int.le_of_lt hb.2) hpn2 (Int.le_of_lt hpn) (by decide)
      have h3 : 0 ≤ r * 2 ^ n.toNat := Int.mul_nonneg hr0.1 (Int.le_of_lt hpn)
      rw [Int.add_mul, Int.one_mul] at h1
      exact ⟨Int.lt_of_lt_of_le (Int.add_lt_add_left hd2.2 _) (Int.le_trans h1 (Int.le_trans h2 (by decide))), h3⟩
    refine gen_goal fun GX hGX => ?_
    obtain ⟨s1, s2, s3, s4⟩ := div_step (d := d) hpn hb0 hx0 hd2
    refine hGX ?_
    clear hGX
    rw [← hr] at s1 s2 s3 s4
    k_steps
    refine Stop.out ?_
    (with_reducible rename Fr _ _ _ _ => F); (with_reducible rename News _ _ _ _ => N)
    refine div21_ok (B.G.keeps fun b o e => F.keep _ _ (hgh _ _ e)) (hA'.le (by decide)) ⟨Int.add_nonneg hmul.2 hd2.1, hmul.1⟩ hb hn1 ?_
    rintro D2 t2 u2 s' ⟨h3, tk3, rfl, hk3⟩ hD2 hDn2
    dsimp only at hk3 hD2 hDn2
    obtain ⟨F3, N3, hne3⟩ := News.made F N hk3 hDn2 hD2
    clear F N
    have nQ : @Ne Nat Ql D2 := hne3 _ (.tail _ (.head _))
    have hTup : h3.IsTuple D2 #[.int ((r * 2 ^ n.toNat + d) / b) t2, .int ((r * 2 ^ n.toNat + d) % b) u2] := ⟨_, hD2, rfl, _, rfl⟩
    k_steps
    refine Stop.out ?_
    refine unpackN_ F3 N3 hTup hA'.hh rfl rfl fun h4 F4 N4 => ?_
    clear hTup hD2 F3 N3
    k_steps
    refine Stop.out ?_
    (with_reducible rename Fr _ _ _ _ => F); (with_reducible rename News _ _ _ _ => N)
    have hqs : qvs.toArray.size ≤ sizeLine := by
      rw [List.size_toArray, IntsAre.length hq, hql]
      exact Nat.le_trans (Nat.le_of_lt hk) (Nat.le_trans (Nat.le_of_eq hlen) (Nat.le_trans hdl (by rw [sizeLine_eq]; decide)))
    have nI : @Ne Nat Ql I := hneI _ (.head _)
    refine append_K (its := qvs.toArray) (n := nq) F N (Upd.tail nQ.symm (Upd.tail nI.symm (Upd.head hQrest))) (fun h' F N => ?_) hqs
    k_steps
    (with_reducible rename Fr _ _ _ _ => F); (with_reducible rename News _ _ _ _ => N)
    rw [List.push_toArray] at N
    have e9 : ds.drop (ds.length - (k + 1)) = d :: ds.drop (ds.length - k) := by
      have hkd : k < ds.length := hlen ▸ hk
      have h1 : ds.length - (k + 1) < ds.length := sub_down hkd
      rw [List.drop_eq_getElem_cons h1]
      have h2 : ds.length - (k + 1) + 1 = ds.length - k := sub_one hkd
      rw [h2]
      have h3 : vs.length - 1 - k = ds.length - (k + 1) := by rw [hlen, Nat.sub_sub, Nat.add_comm 1 k]
      rw [h3, List.getElem?_eq_getElem h1] at hd
      rw [Option.some.inj hd]
    refine ⟨_, (Ql, listOf (qvs ++ [Value.int ((r * 2 ^ n.toNat + d) / b) t2]).toArray (nq + 1)) :: (D, listOf vs.toArray kl) :: (71, q71) :: (78, o78) :: tl, _, _, rfl,
      ⟨qvs ++ [_], ql ++ [(r * 2 ^ n.toNat + d) / b], (r * 2 ^ n.toNat + d) % b, u2, nq + 1, tn, rfl, IntsAre.append hq (.cons _ _ .nil), ?_, ?_, ?_, ?_, ?_, ?_, ?_, ?_⟩, F, fun p hp' => N p ?_, ?_⟩
    · exact rfl
    · exact em2
    · exact em3
    · exact em4
    · rw [e9, dv, s2]
    · rw [List.reverse_append, List.reverse_singleton, List.singleton_append, dv, hqv, e9, dv, s1]
    · intro q hq'
      rcases List.mem_append.mp hq' with hq' | hq'
      · exact hqb q hq'
      · rcases List.mem_singleton.mp hq' with rfl
        exact ⟨s3, s4⟩
    · rw [List.length_append, hql]; rfl
    · exact .tail _ hp'
    · intro p hp'
      rcases List.mem_cons.mp hp' with rfl | hp'
      · exact nI
      · exact hneI p (.tail _ hp')
  · rintro m' news' h' tk' hpk2 F N
    refine gen_goal fun GX hGX => ?_
    obtain ⟨qvs, ql, r, tr, nq, tn, rfl, hq, em1, em2, em3, em4, hr, hqv, hqb, hql⟩ := hpk2
    refine hGX ?_
    clear hGX
    have hQl : ∀ p ∈ (D, listOf vs.toArray kl) :: (71, q71) :: (78, o78) :: tl, p.1 ≠ Ql := hQrest
    k_steps
    refine Stop.out ?_
    have hqz : qvs.toArray.toList.length ≤ sizeLine := by
      show qvs.length ≤ sizeLine
      rw [IntsAre.length hq, hql, IntsAre.length hys]
      exact Nat.le_trans hdl (by rw [sizeLine_eq]; decide)
    refine kl_reverse (its := qvs.toArray) (n := nq) (l := qvs.reverse) F N rfl (Upd.head hQl) hqz fun h' F N => ?_
    k_steps
    refine Stop.out ?_
    (with_reducible rename Fr _ _ _ _ => F); (with_reducible rename News _ _ _ _ => N)
    have hlen := IntsAre.length hys
    have m71 := (N (71, q71) (.tail _ (.tail _ (.head _)))).1
    have m78 := (N (78, o78) (.tail _ (.tail _ (.tail _ (.head _))))).1
    have mtl : ∀ p ∈ tl, _ := fun p hp' => N p (.tail _ (.tail _ (.tail _ (.tail _ hp'))))
    refine d2i_ok B.G (fun b o e => F.keep _ _ (hgh _ _ e)) B.n78 B.c78 (hA'.le (by decide)) ?_ (vs := qvs.reverse) (ds := ql.reverse) ⟨_, (N _ (.head _)).1, rfl, _, rfl⟩ (ints_rev hq) ?_ ?_ hn1 ?_
    · exact h78.move ⟨_, p71, nc71⟩ (fun o e => by rw [p78] at e; cases e; exact m78) fun b o h1 h2 e => F.keep _ _ (hide_keep h1 (hide_keep h2 e))
    · rw [List.length_reverse, hql, hlen]; exact Nat.le_trans hdl (by decide)
    · intro q hq'; exact hqb q (List.mem_reverse.mp hq')
    rintro t5 s' ⟨h5, tk5, rfl, hk5⟩ t78'
    dsimp only at hk5 t78'
    have F5 := Fr.but (P := 78) F (hideAll_none _ (.head _)) N78.1 hk5
    refine gen_goal fun GX hGX => ?_
    obtain ⟨q78, tl2, e78, Ntl2, ltl2, ctl2, htl2⟩ := tab_tail F5 t78'
    refine hGX ?_
    clear hGX
    have ntl : ∀ p ∈ tl, p.1 ∉ [78] := fun p hp' q => by
      have q' : p.1 = 78 := by simpa using q
      obtain ⟨vs', t', q2, c1, c2⟩ := ctl p hp'
      have e1 := (mtl p hp').1
      rw [q', m78] at e1
      rw [← Option.some.inj e1] at c1
      exact nc78 _ _ _ c1 c2
    have N5 : News (hideAll (hideAll hp [71]) [78]) L h5 ((71, q71) :: (78, q78) :: (tl ++ tl2)) := by
      intro p hp'
      rcases List.mem_cons.mp hp' with rfl | hp'
      · exact ⟨hk5 _ _ (show (71 : Nat) ∉ [78] by decide) m71, N71⟩
      · rcases List.mem_cons.mp hp' with rfl | hp'
        · exact ⟨e78, N78⟩
        · rcases List.mem_append.mp hp' with hp' | hp'
          · exact ⟨hk5 _ _ (ntl p hp') (mtl p hp').1, (mtl p hp').2⟩
          · exact Ntl2 p hp'
    clear F N
    rw [hlen, Nat.sub_self, List.drop_zero, hdv] at hqv hr
    rw [hqv]
    subst hr
    k_steps
    (with_reducible rename Fr _ _ _ _ => F); (with_reducible rename News _ _ _ _ => N)
    have hT1 := htl _ F.keep (fun p hp' => (N p (.tail _ (.tail _ (.tail _ (List.mem_append_left _ hp'))))).1) (N (71, q71) (.tail _ (.head _))).1
    have hT2 := htl2 _ F.keep (fun p hp' => (N p (.tail _ (.tail _ (.tail _ (List.mem_append_right _ hp'))))).1) (N (78, q78) (.tail _ (.tail _ (.head _)))).1
    have hh := N _ (.head _)
    dsimp only at hh
    rename_i Dn k0 j0
    have hne1 : @Ne Nat Dn 71 := by omega
    have hne2 : @Ne Nat Dn 78 := by omega
    refine hQ _ _ _ _ ⟨_, _, rfl, fun b o hb e => F.keep _ _ (hide_keep (fun q => hb (by simp [q])) (hide_keep (fun q => hb (by simp [q])) e))⟩ hT1 hT2 hh.1 ?_
    cases e : hp.get? Dn with
    | none => rfl
    | some o => have := hh.2.2; rw [hide_keep hne2 (hide_keep hne1 e)] at this; cases this
end
end Mine
end

section
open PySem PySem.W PySem.Calls PyProof.Rows
set_option Elab.async false
namespace Mine
set_option maxRecDepth 100000
set_option maxHeartbeats 8000000

theorem fillV4 (h : PySem.Challenge.rw_ta0035_01.about = [] → hd.heap_39 = hd.heap_39) : (PySem.Challenge.rw_ta0035_01.about = [] → hd.heap_39 = hd.heap_39) := by
  k_fill
  exact h

theorem TabS.all {P : Addr} {line col : Int} {q : Str} {h h' : Heap} (x : TabS P line col q h) (hk : ∀ b o, h.get? b = some o → h'.get? b = some o) : TabS P line col q h' := by
  obtain ⟨ps, e, hps⟩ := x
  refine ⟨ps, hk _ _ e, ?_⟩
  rcases hps with rfl | ⟨c, rfl, hr⟩
  · exact .inl rfl
  · exact .inr ⟨c, rfl, hr.keeps hk⟩

section
variable {w : World} {A : Around} {s : Shared} {lo : List Str} {mean : ExcName → Option Value} {mg mb : Str → Option Value} {g : Heap}

set_option pp.deepTerms false in
theorem idm_ok (B : Tabs w lo mean mg mb g) (hg : ∀ b o, g.get? b = some o → s.heap.get? b = some o) (h71 : T71 s.heap) (h78 : T78 s.heap) (hA : Amb A 220) {a b : Int} {ta tb : Tok} (ha : 0 ≤ a ∧ a < 2 ^ 40) (hb : 1 ≤ b ∧ b < 2 ^ 30)
    {Q : Value → Shared → Prop} {E : Value → Shared → Prop} (hQ : ∀ D t u s', KeepsBut [71, 78] s s' → T71 s'.heap → T78 s'.heap → s'.heap.get? D = some (pairT (a / b) t (a % b) u) → s.heap.get? D = none → Q (.ref D) s') :
    wpAny (model prog0 w) A (call (.ref 97) [.int a ta, .int b tb]) Q E s := by
  have G1 : Gd w lo mean mg mb s.heap := B.G.keeps hg
  refine wpAny_call ?_
  refine' enter (k := 219) (binds := [(Str.ofString "a", .int a ta), (Str.ofString "b", .int b tb)]) G1 hA ?k6 ?k7 ?k9 ?kB ?c2 ?c3 ?c4 ?c5 ?_
  (case k6 => k_is); (case k7 => k_is);  (case k9 => exact BindsTo.of_eq rfl); (case c5 => decide); (case kB => exact locs rfl); (case c2 => exact rfl); (case c3 => exact rfl); (case c4 => exact rfl)
  have KX := G1.X
  have T := G1.T
  obtain ⟨hp, gens, drawn, toks, os⟩ := s
  dsimp only at *
  intro L h₁ tk F N hA'
  w_top on
  k_steps
  · exfalso; omega
  refine Stop.out ?_
  (with_reducible rename Fr _ _ _ _ => F)
  refine dpos_ok B (fun b o e => F.keep _ _ (hg _ _ e)) (TabS.all h71 F.keep) (TabS.all h78 F.keep) (hA'.le (by decide)) ha hb ?_
  rintro D t u s' ⟨h3, tk3, rfl, hk3⟩ t71 t78 hD hDn
  k_steps
  refine hQ _ _ _ _ ⟨_, _, rfl, fun b o hb e => hk3 _ _ hb (F.keep _ _ e)⟩ t71 t78 hD ?_
  cases e : hp.get? D with
  | none => rfl
  | some o => rw [F.keep _ _ e] at hDn; cases hDn
end
end Mine
end

section
open PySem PySem.W PySem.Calls PyProof.Rows
set_option Elab.async false
namespace Mine
set_option maxRecDepth 100000
set_option maxHeartbeats 8000000

theorem fillV5 (h : PySem.Challenge.rw_ta0035_01.about = [] → hd.heap_39 = hd.heap_39) : (PySem.Challenge.rw_ta0035_01.about = [] → hd.heap_39 = hd.heap_39) := by
  k_fill
  exact h

section
variable {w : World} {A : Around} {s : Shared} {lo : List Str} {mean : ExcName → Option Value} {mg mb : Str → Option Value} {g : Heap}

set_option pp.deepTerms false in
theorem ahead_ok (B : Tabs w lo mean mg mb g) (hg : ∀ b o, g.get? b = some o → s.heap.get? b = some o) (h71 : T71 s.heap) (h78 : T78 s.heap) (hA : Amb A 230) {n : Int} {tn : Tok} (hn : 0 ≤ n ∧ n < 100000)
    {l : Addr} {vs : List Value} {ns : List Int} (hl : s.heap.IsList l vs.toArray) (hi : IntsAre vs ns) (hlen : ns.length = 32) (e30 : ns.getD 30 0 = 832040) (e31 : ns.getD 31 0 = 1346269)
    {Q : Value → Shared → Prop} {E : Value → Shared → Prop} (hQ : ∀ D t u s', KeepsBut [71, 78] s s' → T71 s'.heap → T78 s'.heap → s'.heap.get? D = some (pairT ((n + 1) * 832040 / 1346269) t ((n + 1) * 832040 % 1346269) u) → s.heap.get? D = none → Q (.ref D) s') :
    wpAny (model prog0 w) A (call (.ref 127) [.int n tn, .ref l]) Q E s := by
  have G1 : Gd w lo mean mg mb s.heap := B.G.keeps hg
  refine wpAny_call ?_
  refine' enter (k := 229) (binds := [(Str.ofString "n", .int n tn), (Str.ofString "table", .ref l)]) G1 hA ?k6 ?k7 ?k9 ?kB ?c2 ?c3 ?c4 ?c5 ?_
  (case k6 => k_is); (case k7 => k_is);  (case k9 => exact BindsTo.of_eq rfl); (case c5 => decide); (case kB => exact locs rfl); (case c2 => exact rfl); (case c3 => exact rfl); (case c4 => exact rfl)
  have KX := G1.X
  have T := G1.T
  obtain ⟨hp, gens, drawn, toks, os⟩ := s
  dsimp only at *
  intro L h₁ tk F N hA'
  w_top on
  k_steps
  refine Stop.out ?_
  (with_reducible rename Fr _ _ _ _ => F)
  have i1 : (-2 + (ns.length : Int)).toNat = 30 := by omega
  have i2 : (-1 + (ns.length : Int)).toNat = 31 := by omega
  rw [i1, i2, e30, e31]
  refine idm_ok B (fun b o e => F.keep _ _ (hg _ _ e)) (TabS.all h71 F.keep) (TabS.all h78 F.keep) (hA'.le (by decide)) (by omega) (by decide) ?_
  rintro D t u s' ⟨h3, tk3, rfl, hk3⟩ t71 t78 hD hDn
  k_steps
  refine hQ _ _ _ _ ⟨_, _, rfl, fun b o hb e => hk3 _ _ hb (F.keep _ _ e)⟩ t71 t78 hD ?_
  cases e : hp.get? D with
  | none => rfl
  | some o => rw [F.keep _ _ e] at hDn; cases hDn
end
end Mine
end

section
open PySem PySem.W PySem.Calls PyProof.Rows PySem.Builtin PySem.Builtin.Str PySem.Builtin.Int
set_option Elab.async false
namespace Mine
set_option maxRecDepth 100000
set_option maxHeartbeats 4000000

/-- str.find with both ends -/
noncomputable def fnd (x y : Str) (i j : Int) : Int := match occurrences x y (fromIndex x.length i) (min (fromIndex x.length j) x.length) 1 with | k :: _ => (k : Int) | [] => -1

theorem gives_find4 (x y : Str) (i j : Int) (t u v r : Tok) : Gives (Builtin.«str.find» ⟨[.str x t, .str y u, .int i v, .int j r], []⟩) (.int (fnd x y i j)) := by
  show Gives (match occurrences x y (fromIndex x.length i) (min (fromIndex x.length j) x.length) 1 with | k :: _ => retInt k | [] => (do rule "str.find.not-found"; retInt (-1))) _
  unfold fnd
  cases occurrences x y (fromIndex x.length i) (min (fromIndex x.length j) x.length) 1 with
  | nil => exact .rule (.of_eq rfl)
  | cons k _ => exact .of_eq rfl

section
variable {prog : Program} {w : World} {A : Around} {E : Value → Shared → Prop} {s : Shared}
theorem find4 {x y : Str} {i j : Int} {t u v r : Tok} {Q : Value → Shared → Prop} (hq : Q (.int (fnd x y i j) s.toks) { s with toks := s.toks + 1 }) :
    wpAny (model prog w) A (call (.builtin "str.find") [.str x t, .str y u, .int i v, .int j r]) Q E s :=
  call_gives F.slot_str_find (typeIs_str _ _ _) F.entry_str_find (F.args_str_find_4 _ _ _ _) (gives_find4 x y i j t u v r) hq
end
end Mine
end

section
open PySem PySem.W PySem.Calls PyProof.Rows
set_option Elab.async false
namespace Mine
set_option maxRecDepth 100000
set_option maxHeartbeats 4000000

section
variable {prog : Program} {w : World} {A : Around} {gens : Array GenState} {drawn : Drawn} {os : OsState} {tk : Nat}
  {g hp : Heap} {m : Str → Option Value} {news : List (Addr × Obj)} {env : Env} {target : Expr} {body : List Stmt} {Q : Flow → Shared → Prop}

/-- for x in list -/
theorem for_list2 {l : Addr} {vs : List Value} {L : Addr} (hh : A.handled = none) (F : Fr g L hp m) (N : News g L hp news) (J : Nat → (Str → Option Value) → List (Addr × Obj) → Prop)
    (hJl : ∀ k m' news' h', J k m' news' → Fr g L h' m' → News g L h' news' → h'.IsList l vs.toArray)
    (start : J 0 m news)
    (turn : ∀ (k : Nat) v m' news' h' tk' I o, vs[k]? = some v → J k m' news' → Fr g L h' m' → News g L h' ((I, o) :: news') → (∀ p ∈ news', p.1 ≠ I) → (∃ z : Int, o.data = .fields #[.ref l, .int z 0]) →
      wpAny (model prog w) A (assign target env v) (fun _ s₂ => wpAny (model prog w) A (execs body env) (FEnd J g L I o gens drawn os k Q) (fun _ _ => False) s₂) (fun _ _ => False) ⟨h', gens, drawn, tk', os⟩)
    (done : ∀ m' news' h' tk', J vs.length m' news' → Fr g L h' m' → News g L h' news' → Q .next ⟨h', gens, drawn, tk', os⟩) :
    wpAny (model prog w) A (pyIter (.ref l)) (fun it s₂ => codeAny (model prog w) (A.mark none) (.forLoop target it body [] env)
      (fun r s' => match r with | .ok f => Q f s' | .error e => cameBackBy (model prog w) A env (fun _ _ => False) e s') s₂) (fun _ _ => False) ⟨hp, gens, drawn, tk, os⟩ := by
  have hl0 : hp.IsList l vs.toArray := hJl 0 m news hp start F N
  refine wpAny_pyIter_list hl0 ?_
  dsimp only
  have hlt0 : l ≠ hp.objs.size := by obtain ⟨_, e, _⟩ := hl0; exact Nat.ne_of_lt (Heap.lt_size e)
  have FI := F.push { cls := .type "list_iterator", data := .fields #[.ref l, .int 0 0] }
  have NI := N.push F { cls := .type "list_iterator", data := .fields #[.ref l, .int 0 0] }
  have hneI : ∀ p ∈ news, p.1 ≠ hp.objs.size := fun p hp' => Nat.ne_of_lt (Heap.lt_size (N p hp').1)
  show codeAny (model prog w) A (.forLoop target _ body [] env) _ _
  refine codeAny_forLoop_any (fun j s' => ∃ (k : Nat) (m' : Str → Option Value) (news' : List (Addr × Obj)) (h' : Heap) (tk' : Nat) (o : Obj), s' = ⟨h', gens, drawn, tk', os⟩ ∧ j = vs.length - k ∧ k ≤ vs.length ∧ J k m' news' ∧ Fr g L h' m' ∧
      News g L h' ((hp.objs.size, o) :: news') ∧ h'.IsListIter hp.objs.size l k ∧ (∀ p ∈ news', p.1 ≠ hp.objs.size)) ?_ vs.length
      ⟨0, m, news, _, _, _, rfl, rfl, Nat.zero_le _, start, FI, NI, ⟨_, Heap.get?_push_size _ rfl, rfl, rfl⟩, hneI⟩
  rintro j s' hpk1
  refine gen_goal fun GX hGX => ?_
  obtain ⟨k, m', news', h', tk', o, rfl, rfl, hk, hJ, F', N', hit, hne⟩ := hpk1
  refine hGX ?_
  clear hGX
  have hl : h'.IsList l vs.toArray := hJl k m' news' h' hJ F' (News.drop N')
  by_cases hlt : k < vs.length
  · have hv : vs[k]? = some vs[k] := List.getElem?_eq_getElem hlt
    refine wpAny_pyNext_list_item hit hl (x := vs[k]) (by simpa using hv) fun h1 hit1 hs1 => ?_
    have hk1 : ∀ b o, b ≠ hp.objs.size → h'.get? b = some o → h1.get? b = some o := fun b o hb e => (hs1.2 b hb).trans e
    obtain ⟨o1, ho1, hr1⟩ := id hit1
    have F1 := Fr.iter F' N' hk1
    have N1 := News.iter N' hne hk1 ho1
    have t := turn k _ m' news' h1 tk' hp.objs.size o1 hv hJ F1 N1 hne ⟨_, hr1.2⟩
    refine letGo_listiter hit1 ?_
    refine wpAny_mono t (fun _ s₂ h₂ => wpAny_mono h₂ (fun f s₃ h₃ => ?_) fun _ _ e => e.elim) fun _ _ e => e.elim
    have nx : (∃ m' news' h' tk', s₃ = ⟨h', gens, drawn, tk', os⟩ ∧ J (k + 1) m' news' ∧ Fr g L h' m' ∧ News g L h' ((hp.objs.size, o1) :: news') ∧ (∀ p ∈ news', p.1 ≠ hp.objs.size)) →
        ∃ m, m < vs.length - k ∧ ∃ (k : Nat) (m' : Str → Option Value) (news' : List (Addr × Obj)) (h' : Heap) (tk' : Nat) (o : Obj), s₃ = ⟨h', gens, drawn, tk', os⟩ ∧ m = vs.length - k ∧ k ≤ vs.length ∧ J k m' news' ∧ Fr g L h' m' ∧
          News g L h' ((hp.objs.size, o) :: news') ∧ h'.IsListIter hp.objs.size l k ∧ (∀ p ∈ news', p.1 ≠ hp.objs.size) := by
      rintro hpk2
      refine gen_goal fun GX hGX => ?_
      obtain ⟨m2, news2, h2, tk2, rfl, hJ2, F3, N3, hne2⟩ := hpk2
      refine hGX ?_
      clear hGX
      exact ⟨vs.length - (k + 1), sub_step (by assumption), k + 1, m2, news2, h2, tk2, o1, rfl, rfl, hlt, hJ2, F3, N3, ⟨o1, (N3 _ (.head _)).1, hr1⟩, hne2⟩
    cases f with
    | next => exact nx h₃
    | cont => exact nx h₃
    | brk => exact h₃
    | ret v => exact h₃
  · have e : k = vs.length := by omega
    subst e
    refine wpAny_pyNext_list_end hh hit hl (by simp) fun h1 he1 => ?_
    have hk1 : ∀ b o, b ≠ hp.objs.size → h'.get? b = some o → h1.get? b = some o := fun b o hb e => he1 b o hb e
    refine wpAny_execs_nil (done m' news' h1 _ hJ (Fr.iter F' N' hk1) fun p hp' => ?_)
    exact ⟨hk1 _ _ (hne p hp') (N' p (.tail _ hp')).1, (N' p (.tail _ hp')).2⟩
theorem for_list {l : Addr} {vs : List Value} {L : Addr} (hh : A.handled = none) (F : Fr g L hp m) (N : News g L hp news) (J : Nat → (Str → Option Value) → List (Addr × Obj) → Prop)
    (hJl : ∀ k m' news' h', J k m' news' → Fr g L h' m' → News g L h' news' → h'.IsList l vs.toArray)
    (start : J 0 m news)
    (turn : ∀ (k : Nat) v m' news' h' tk' I o, vs[k]? = some v → J k m' news' → Fr g L h' m' → News g L h' ((I, o) :: news') → (∀ p ∈ news', p.1 ≠ I) →
      wpAny (model prog w) A (assign target env v) (fun _ s₂ => wpAny (model prog w) A (execs body env) (FEnd J g L I o gens drawn os k Q) (fun _ _ => False) s₂) (fun _ _ => False) ⟨h', gens, drawn, tk', os⟩)
    (done : ∀ m' news' h' tk', J vs.length m' news' → Fr g L h' m' → News g L h' news' → Q .next ⟨h', gens, drawn, tk', os⟩) :
    wpAny (model prog w) A (pyIter (.ref l)) (fun it s₂ => codeAny (model prog w) (A.mark none) (.forLoop target it body [] env)
      (fun r s' => match r with | .ok f => Q f s' | .error e => cameBackBy (model prog w) A env (fun _ _ => False) e s') s₂) (fun _ _ => False) ⟨hp, gens, drawn, tk, os⟩ :=
  for_list2 hh F N J hJl start (fun k v m' news' h' tk' I o a b c d e _ => turn k v m' news' h' tk' I o a b c d e) done
end
end Mine
end

section
open PySem PySem.W PySem.Calls PyProof.Rows PySem.Builtin PySem.Builtin.Str
set_option Elab.async false
namespace Mine
set_option maxRecDepth 100000
set_option maxHeartbeats 4000000

theorem occ_none {x y : Str} {lo hi limit : Nat} (h : ∀ i, i + y.length ≤ hi → subAt x y i = false) : occurrences x y lo hi limit = [] := by
  cases e : occurrences x y lo hi limit with
  | nil => rfl
  | cons k r =>
    have := PySem.StrLaws.occ_spec x y lo hi limit k (by rw [e]; exact .head _)
    rw [h k this.1] at this
    cases this.2

theorem fnd_none {x y : Str} {i j : Int} (h : ∀ i, i + y.length ≤ x.length → subAt x y i = false) : fnd x y i j = -1 := by
  unfold fnd
  rw [occ_none fun i hi => h i (Nat.le_trans hi (Nat.min_le_right _ _))]

theorem fnd_empty {x : Str} {j : Int} : fnd x (Str.ofString "") 0 j = 0 := by
  have e0 : fromIndex x.length 0 = 0 := by unfold fromIndex; simp
  unfold fnd
  rw [e0]
  have key : ∀ hi, ∃ r, occurrences x (Str.ofString "") 0 hi 1 = 0 :: r := by
    intro hi
    rw [PySem.StrLaws.occ_eq]
    have grow : ∀ (l : List Nat) (st : Array Nat × Nat) (r0 : List Nat), st.fst.toList = 0 :: r0 → ∃ r, (forIn (m := Id) l st (PySem.StrLaws.occBody x (Str.ofString "") hi 1)).run.fst.toList = 0 :: r := by
      intro l
      induction l with
      | nil => intro st r0 h; exact ⟨r0, h⟩
      | cons a l ih =>
        intro st r0 h
        rw [List.forIn_cons]
        unfold PySem.StrLaws.occBody
        split
        · exact ih _ (r0 ++ [a]) (by rw [Array.toList_push, h]; rfl)
        · exact ih _ r0 h
    have e1 : List.range' 0 (hi + 1 - 0) = 0 :: List.range' 1 hi := by rw [Nat.sub_zero, List.range'_succ]
    rw [e1, List.forIn_cons]
    have hc : (((((#[] : Array Nat), 0).fst.size < 1 ∧ ((#[] : Array Nat), 0).snd ≤ 0) ∧ 0 + (Str.ofString "").length ≤ hi) ∧ subAt x (Str.ofString "") 0 = true) := by
      have e2 : (Str.ofString "").length = 0 := by decide +kernel
      have e3 : (Str.ofString "").cps = #[] := by decide +kernel
      refine ⟨⟨⟨by decide, by decide⟩, by omega⟩, ?_⟩
      unfold subAt
      rw [e2, e3]
      simp
    have hb : PySem.StrLaws.occBody x (Str.ofString "") hi 1 0 (#[], 0) = pure (ForInStep.yield ((#[] : Array Nat).push 0, 0 + (Str.ofString "").length)) := by
      unfold PySem.StrLaws.occBody
      rw [if_pos hc]
    rw [hb]
    exact grow _ _ [] rfl
  obtain ⟨r, hr⟩ := key (min (fromIndex x.length j) x.length)
  rw [hr]
  rfl
end Mine
end

section
open PySem PySem.W PySem.Calls PyProof.Rows
set_option Elab.async false
namespace Mine
set_option maxRecDepth 100000
set_option maxHeartbeats 8000000

theorem fillM1 (h : PySem.Challenge.rw_ta0035_01.about = [] → hd.heap_39 = hd.heap_39) : (PySem.Challenge.rw_ta0035_01.about = [] → hd.heap_39 = hd.heap_39) := by
  k_fill
  exact h

section
variable {w : World} {A : Around} {s : Shared} {lo : List Str} {mean : ExcName → Option Value} {mg mb : Str → Option Value} {g : Heap}


/-- a split whose parts are known -/
theorem split_lit {g hp : Heap} {L : Addr} {m : Str → Option Value} {news : List (Addr × Obj)} {gens : Array GenState} {drawn : Drawn} {os : OsState} {tk : Nat} {E : Value → Shared → Prop} {a b : Str} {t u : Tok} {Q : Value → Shared → Prop} (F : Fr g L hp m) (N : News g L hp news) (hb : (b.length == 0) = false) (ha : a.length ≤ 100)
    (hQ : ∀ D l h' k, l.map (·.1) = Txt.split a b → Fr g L h' m → News g L h' ((D, listOf (strValues l).toArray 0) :: news) → (∀ p ∈ news, p.1 < D) → Q (.ref D) ⟨h', gens, drawn, k, os⟩) :
    wpAny (model prog0 w) A (call (.builtin "str.split") [.str a t, .str b u]) Q E ⟨hp, gens, drawn, tk, os⟩ :=
  splitN1 (s := ⟨hp, gens, drawn, tk, os⟩) F N hb (fun l h' k hl F' N' => hQ _ l h' k hl F' N' fun p hp' => Heap.lt_size (N p hp').1) (by rw [sizeLine_eq]; omega)

set_option pp.deepTerms false in
theorem em1_ok (G : Gd w lo mean mg mb s.heap) (hA : Amb A 20) {x : Str} {t u : Tok} (hx : x.length ≤ 64) (hx1 : 1 ≤ x.length)
    {Q : Value → Shared → Prop} {E : Value → Shared → Prop} (hQ : ∀ s', Keeps s s' → Q (.bool (Txt.endswith x (Str.ofString "1"))) s') :
    wpAny (model prog0 w) A (call (.ref 113) [.str (Str.ofString "...1") t, .str x u]) Q E s := by
  refine wpAny_call ?_
  refine' enter (k := 19) (binds := [(Str.ofString "want", .str (Str.ofString "...1") t), (Str.ofString "got", .str x u)]) G hA ?k6 ?k7 ?k9 ?kB ?c2 ?c3 ?c4 ?c5 ?_
  (case k6 => k_is); (case k7 => k_is);  (case k9 => exact BindsTo.of_eq rfl); (case c5 => decide); (case kB => exact locs rfl); (case c2 => exact rfl); (case c3 => exact rfl); (case c4 => exact rfl)
  have KX := G.X
  have T := G.T
  obtain ⟨hp, gens, drawn, toks, os⟩ := s
  dsimp only at *
  intro L h₁ tk F N hA'
  w_top on
  k_steps
  · exact absurd (by assumption) (by decide +kernel)
  refine Stop.out ?_
  (with_reducible rename Fr _ _ _ _ => F); (with_reducible rename News _ _ _ _ => N)
  refine split_lit F N (by decide +kernel) (by decide +kernel) ?_
  intro D l h2 k hl F N l1
  have e9 : Txt.split (Str.ofString "...1") (Str.ofString "...") = [Str.ofString "", Str.ofString "1"] := by decide +kernel
  rw [e9] at hl
  obtain ⟨⟨y1, t1⟩, l2, rfl, f1, hl2⟩ := List.map_eq_cons_iff.mp hl
  obtain ⟨⟨y2, t2⟩, l3, rfl, f2, hl3⟩ := List.map_eq_cons_iff.mp hl2
  obtain rfl := List.map_eq_nil_iff.mp hl3
  dsimp only at f1 f2
  subst f1 f2
  clear l1 hl hl2 hl3
  k_steps
  (with_reducible rename Fr _ _ _ _ => F); (with_reducible rename News _ _ _ _ => N)
  refine unpackItemsN_ F N (News.isTup N (.head _)) hA'.hh rfl fun h4 F4 N4 => ?_
  clear F N
  k_steps
  refine Stop.out ?_
  refine SC.endswith ?_
  k_steps
  · refine Stop.out ?_
    refine wpAny_For ?_ (fun _ => rfl)
    k_steps
    refine Stop.out ?_
    (with_reducible rename Fr _ _ _ _ => F); (with_reducible rename News _ _ _ _ => N)
    refine for_list hA'.hh F N (vs := strValues [(Str.ofString "", t1)]) (fun k m' news' => m' (Str.ofString "ws") = some (.ref D) ∧ (∃ n, (D, listOf (strValues [(Str.ofString "", t1)]).toArray n) ∈ news') ∧ (∃ u', m' (Str.ofString "startpos") = some (.int 0 u')) ∧ (∃ u', m' (Str.ofString "endpos") = some (.int ((x.length : Int) - 1) u')) ∧ m' (Str.ofString "got") = some (.str x u)) ?_ ?_ ?_ ?_
    · rintro k m' news' h' hpk1 F N
      refine gen_goal fun GX hGX => ?_
      obtain ⟨_, ⟨n, hn⟩, _⟩ := hpk1
      refine hGX ?_
      clear hGX
      exact ⟨_, (N _ hn).1, rfl, n, rfl⟩
    · exact ⟨rfl, ⟨_, .tail _ (.head _)⟩, ⟨_, rfl⟩, ⟨_, rfl⟩, rfl⟩
    · rintro k v m' news' h' tk' I o hv hpk2 F N hne
      refine gen_goal fun GX hGX => ?_
      obtain ⟨j1, ⟨n, j2⟩, ⟨u1, j3⟩, ⟨u2, j4⟩, j5⟩ := hpk2
      refine hGX ?_
      clear hGX
      have hk0 : k = 0 := by
        have := (List.getElem?_eq_some_iff.mp hv).1
        have e : (strValues [(Str.ofString "", t1)]).length = 1 := rfl
        omega
      subst hk0
      cases hv
      k_steps
      refine Stop.out ?_
      refine find4 ?_
      rw [fnd_empty]
      k_steps
      (with_reducible rename Fr _ _ _ _ => F); (with_reducible rename News _ _ _ _ => N)
      refine ⟨_, _, _, _, rfl, ?_, F, N, hne⟩
      exact ⟨j1, ⟨n, j2⟩, ⟨_, rfl⟩, ⟨u2, j4⟩, j5⟩
    · rintro m' news' h' tk' hpk3 F N
      refine gen_goal fun GX hGX => ?_
      obtain ⟨j1, ⟨n, j2⟩, ⟨u1, j3⟩, ⟨u2, j4⟩, j5⟩ := hpk3
      refine hGX ?_
      clear hGX
      k_steps
      have hend : Txt.endswith x (Str.ofString "1") = true := by assumption
      have := hQ ⟨h', gens, drawn, tk', os⟩ ⟨h', _, rfl, F.keep⟩
      rw [hend] at this
      exact this
  have hend : Txt.endswith x (Str.ofString "1") = false := by assumption
  (with_reducible rename Fr _ _ _ _ => F)
  rw [hend] at hQ
  exact hQ _ ⟨_, _, rfl, F.keep⟩
set_option pp.deepTerms false in
theorem em11_ok (G : Gd w lo mean mg mb s.heap) (hA : Amb A 20) {x : Str} {t u : Tok} (hx : x.length ≤ 64) (hno : ∀ i, i + (Str.ofString "11").length ≤ x.length → Builtin.Str.subAt x (Str.ofString "11") i = false)
    {Q : Value → Shared → Prop} {E : Value → Shared → Prop} (hQ : ∀ s', Keeps s s' → Q (.bool false) s') :
    wpAny (model prog0 w) A (call (.ref 113) [.str (Str.ofString "...11...") t, .str x u]) Q E s := by
  refine wpAny_call ?_
  refine' enter (k := 19) (binds := [(Str.ofString "want", .str (Str.ofString "...11...") t), (Str.ofString "got", .str x u)]) G hA ?k6 ?k7 ?k9 ?kB ?c2 ?c3 ?c4 ?c5 ?_
  (case k6 => k_is); (case k7 => k_is);  (case k9 => exact BindsTo.of_eq rfl); (case c5 => decide); (case kB => exact locs rfl); (case c2 => exact rfl); (case c3 => exact rfl); (case c4 => exact rfl)
  have KX := G.X
  have T := G.T
  obtain ⟨hp, gens, drawn, toks, os⟩ := s
  dsimp only at *
  intro L h₁ tk F N hA'
  w_top on
  k_steps
  · exact absurd (by assumption) (by decide +kernel)
  refine Stop.out ?_
  (with_reducible rename Fr _ _ _ _ => F); (with_reducible rename News _ _ _ _ => N)
  refine split_lit F N (by decide +kernel) (by decide +kernel) ?_
  intro D l h2 k hl F N l1
  have e9 : Txt.split (Str.ofString "...11...") (Str.ofString "...") = [Str.ofString "", Str.ofString "11", Str.ofString ""] := by decide +kernel
  rw [e9] at hl
  obtain ⟨⟨y1, t1⟩, l2, rfl, f1, hl2⟩ := List.map_eq_cons_iff.mp hl
  obtain ⟨⟨y2, t2⟩, l3, rfl, f2, hl3⟩ := List.map_eq_cons_iff.mp hl2
  obtain ⟨⟨y3, t3⟩, l4, rfl, f3, hl4⟩ := List.map_eq_cons_iff.mp hl3
  obtain rfl := List.map_eq_nil_iff.mp hl4
  dsimp only at f1 f2 f3
  subst f1 f2 f3
  clear l1 hl hl2 hl3 hl4
  k_steps
  (with_reducible rename Fr _ _ _ _ => F); (with_reducible rename News _ _ _ _ => N)
  refine unpackItemsN_ F N (News.isTup N (.head _)) hA'.hh rfl fun h4 F4 N4 => ?_
  clear F N
  k_steps
  refine Stop.out ?_
  refine wpAny_For ?_ (fun _ => rfl)
  k_steps
  refine Stop.out ?_
  (with_reducible rename Fr _ _ _ _ => F); (with_reducible rename News _ _ _ _ => N)
  refine for_list hA'.hh F N (vs := strValues [(Str.ofString "", t1), (Str.ofString "11", t2), (Str.ofString "", t3)]) (fun k m' news' => k ≤ 1 ∧ m' (Str.ofString "ws") = some (.ref D) ∧ (∃ n, (D, listOf (strValues [(Str.ofString "", t1), (Str.ofString "11", t2), (Str.ofString "", t3)]).toArray n) ∈ news') ∧ (∃ u', m' (Str.ofString "startpos") = some (.int 0 u')) ∧ (∃ u', m' (Str.ofString "endpos") = some (.int (x.length : Int) u')) ∧ m' (Str.ofString "got") = some (.str x u)) ?_ ?_ ?_ ?_
  · rintro k m' news' h' hpk4 F N
    refine gen_goal fun GX hGX => ?_
    obtain ⟨_, _, ⟨n, hn⟩, _⟩ := hpk4
    refine hGX ?_
    clear hGX
    exact ⟨_, (N _ hn).1, rfl, n, rfl⟩
  · exact ⟨Nat.zero_le _, rfl, ⟨_, .tail _ (.head _)⟩, ⟨_, rfl⟩, ⟨_, rfl⟩, rfl⟩
  · rintro k v m' news' h' tk' I o hv hpk5 F N hne
    refine gen_goal fun GX hGX => ?_
    obtain ⟨hk1, j1, ⟨n, j2⟩, ⟨u1, j3⟩, ⟨u2, j4⟩, j5⟩ := hpk5
    refine hGX ?_
    clear hGX
    rcases (show k = 0 ∨ k = 1 by omega) with rfl | rfl
    · cases hv
      k_steps
      refine Stop.out ?_
      refine find4 ?_
      rw [fnd_empty]
      k_steps
      (with_reducible rename Fr _ _ _ _ => F); (with_reducible rename News _ _ _ _ => N)
      refine ⟨_, _, _, _, rfl, ?_, F, N, hne⟩
      exact ⟨Nat.le_refl _, j1, ⟨n, j2⟩, ⟨_, rfl⟩, ⟨u2, j4⟩, j5⟩
    · cases hv
      k_steps
      refine Stop.out ?_
      refine find4 ?_
      rw [fnd_none hno]
      k_steps
      (with_reducible rename Fr _ _ _ _ => F); (with_reducible rename News _ _ _ _ => N)
      exact hQ _ ⟨_, _, rfl, F.keep⟩
  · rintro m' news' h' tk' ⟨hk1, _⟩ F N
    exact absurd (show 3 ≤ 1 from hk1) (by decide)
end
end Mine
end

section
open PySem PySem.W PySem.Calls PyProof.Rows
open Mine
local macro_rules | `(tactic| walk_at "execs cons Assign cons") => `(tactic| ((with_reducible show wpAny _ _ (execs (Stmt.Assign _ (Expr.ListComp _ _ _ _) _ :: _) _) _ _ _); refine Stop.intro ?_))
local macro_rules | `(tactic| k_all) => `(tactic| first | assumption | (refine all_gt (by assumption) ?_; omega) | (refine off_ne (by assumption) ?_; omega))

section
open PySem PySem.W PySem.Calls PyProof.Rows
set_option Elab.async false
namespace Mine
set_option maxRecDepth 100000
set_option maxHeartbeats 8000000

noncomputable def lawBody : List Stmt := (fnPart prog0.main.body.getLast?).1
noncomputable def lawScope : Scope := (fnPart prog0.main.body.getLast?).2

theorem fillW1 (h : PySem.Challenge.rw_ta0035_01.about = [] → hd.heap_39 = hd.heap_39) : (PySem.Challenge.rw_ta0035_01.about = [] → hd.heap_39 = hd.heap_39) := by
  k_fill
  exact h

/-- the numbers of the table -/
noncomputable def fibs : List Int := [0, 1, 1, 2, 3, 5, 8, 13, 21, 34, 55, 89, 144, 233, 377, 610, 987, 1597, 2584, 4181, 6765, 10946, 17711, 28657, 46368, 75025, 121393, 196418, 317811, 514229, 832040, 1346269]

theorem fibs_step : ∀ k : Nat, k < 32 → 2 ≤ k → (fibs.take k).getD (-1 + ((fibs.take k).length : Int)).toNat 0 + (fibs.take k).getD (-2 + ((fibs.take k).length : Int)).toNat 0 = fibs.getD k 0 ∧ fibs.take (k + 1) = fibs.take k ++ [fibs.getD k 0] := by decide +kernel

/-- what the law's later parts know at every place -/
structure LawK (w : World) (lo : List Str) (mean : ExcName → Option Value) (mg mb : Str → Option Value) (g : Heap) (A : Around) (L : Addr) : Prop where
  B : Tabs w lo mean mg mb g
  hA : Amb A 300
  hL : @LT.lt Nat _ 78 L

section
variable {w : World} {A : Around} {lo : List Str} {mean : ExcName → Option Value} {mg mb : Str → Option Value} {g : Heap}

theorem seg_a {gens : Array GenState} {drawn : Drawn} {os : OsState} {tk : Nat} {hp : Heap} {L fa : Addr} {cd : Value} {m : Str → Option Value} {Q : Flow → Shared → Prop} {o0 o1 o2 o3 o4 o5 o6 o7 o8 o9 q78 q71 : Obj} {tl : List (Addr × Obj)}
   (K : LawK w lo mean mg mb g A L) (F : Fr g L hp m)
   (N : News g L hp ((L + 1 + 1 + 1 + 1 + 1 + 1 + 1 + 1 + 1 + 1, o0) :: (L + 1 + 1 + 1 + 1 + 1 + 1 + 1 + 1 + 1, o1) :: (L + 1 + 1 + 1 + 1 + 1 + 1 + 1 + 1, o2) :: (L + 1 + 1 + 1 + 1 + 1 + 1 + 1, o3) :: (L + 1 + 1 + 1 + 1 + 1 + 1, o4) :: (L + 1 + 1 + 1 + 1 + 1, o5) :: (L + 1 + 1 + 1 + 1, o6) :: (L + 1 + 1 + 1, o7) :: (L + 1 + 1, o8) :: (L + 1, o9) :: (78, q78) :: (71, q71) :: tl)) (htl : ∀ p ∈ tl, @LT.lt Nat _ (L + 1 + 1 + 1 + 1 + 1 + 1 + 1 + 1 + 1 + 1) p.1)
   (e8 : o8.data = .cell none)
   (next : ∀ h' tk' D us ep o8, Fr g L h' m → News g L h' ((D, listOf us.toArray ep) :: (L + 1 + 1 + 1 + 1 + 1 + 1 + 1 + 1 + 1 + 1, o0) :: (L + 1 + 1 + 1 + 1 + 1 + 1 + 1 + 1 + 1, o1) :: (L + 1 + 1 + 1 + 1 + 1 + 1 + 1 + 1, o2) :: (L + 1 + 1 + 1 + 1 + 1 + 1 + 1, o3) :: (L + 1 + 1 + 1 + 1 + 1 + 1, o4) :: (L + 1 + 1 + 1 + 1 + 1, o5) :: (L + 1 + 1 + 1 + 1, o6) :: (L + 1 + 1 + 1, o7) :: (L + 1 + 1, o8) :: (L + 1, o9) :: (78, q78) :: (71, q71) :: tl) → IntsAre us fibs → o8.data = .cell (some (.ref D)) → @LT.lt Nat _ (L + 1 + 1 + 1 + 1 + 1 + 1 + 1 + 1 + 1 + 1) D →
     wpAny (model prog0 w) A (execs (lawBody.drop 2) (envOfC (Str.ofString "law") lawScope L fa cd)) Q (fun _ _ => False) ⟨h', gens, drawn, tk', os⟩) :
   wpAny (model prog0 w) A (execs (lawBody.drop 0) (envOfC (Str.ofString "law") lawScope L fa cd)) Q (fun _ _ => False) ⟨hp, gens, drawn, tk, os⟩ := by
  conv in execs _ _ =>
    congr
    · whnf
    · arg 2
      whnf
  dsimp only
  have KX := K.B.G.X
  have T := K.B.G.T
  have hL := K.hL
  have hA := K.hA
  w_top on
  k_steps
  refine Stop.out ?_
  (with_reducible rename Fr _ _ _ _ => F); (with_reducible rename News _ _ _ _ => N)
  have hh := N _ (.head _)
  dsimp only at hh
  obtain ⟨D, hD⟩ := name_get hh.1
  subst hD
  clear hh
  rename _ ∧ _ => l1
  rename o8.data = _ => e8'
  rename Obj.data _ = Data.cell (some (Value.ref D)) => e8
  obtain ⟨o8', ho8⟩ := name_data e8
  subst ho8
  have hD : @LT.lt Nat _ (L + 1 + 1 + 1 + 1 + 1 + 1 + 1 + 1 + 1 + 1) D := l1.1
  have htlD : ∀ p ∈ tl, p.1 ≠ D := fun p hp' => Nat.ne_of_lt (allLt_mem l1.2.2.2.2.2.2.2.2.2.2.2.2 p hp')
  clear l1
  refine while_rule (fun n s' => ∃ (k : Nat) (us : List Value) (ep : Nat) (h' : Heap) (tk' : Nat), 2 ≤ k ∧ k ≤ 32 ∧ n = 32 - k ∧ s' = ⟨h', gens, drawn, tk', os⟩ ∧ Fr g L h' m ∧
    News g L h' ((D, listOf us.toArray ep) :: (L + 1 + 1 + 1 + 1 + 1 + 1 + 1 + 1 + 1 + 1, o0) :: (L + 1 + 1 + 1 + 1 + 1 + 1 + 1 + 1 + 1, o1) :: (L + 1 + 1 + 1 + 1 + 1 + 1 + 1 + 1, o2) :: (L + 1 + 1 + 1 + 1 + 1 + 1 + 1, o3) :: (L + 1 + 1 + 1 + 1 + 1 + 1, o4) :: (L + 1 + 1 + 1 + 1 + 1, o5) :: (L + 1 + 1 + 1 + 1, o6) :: (L + 1 + 1 + 1, o7) :: (L + 1 + 1, o8') :: (L + 1, o9) :: (78, q78) :: (71, q71) :: tl) ∧ IntsAre us (fibs.take k)) ?_ 30
    ⟨2, _, _, _, _, Nat.le_refl _, by decide, rfl, rfl, F, N, .cons _ _ (.cons _ _ .nil)⟩
  rintro n s' ⟨k, us, ep, h', tk', hk2, hk3, rfl, rfl, F, N, hus⟩
  have hlen : us.length = k := by
    rw [IntsAre.length hus, List.length_take]
    exact Nat.min_eq_left hk3
  have hsz : us.toArray.size = k := by rw [List.size_toArray]; exact hlen
  k_steps
  · have hlt : (k : Int) < 32 := by assumption
    refine Stop.out ?_
    obtain ⟨s1, s2⟩ := fibs_step k (by omega) hk2
    refine append_K (its := us.toArray) (n := ep) F N (Upd.head (by k_all)) (fun h' F N => ?_) (by rw [hsz, sizeLine_eq]; omega)
    rw [s1] at N
    k_steps
    (with_reducible rename Fr _ _ _ _ => F); (with_reducible rename News _ _ _ _ => N)
    rw [List.push_toArray] at N
    exact ⟨32 - (k + 1), by omega, k + 1, _, _, _, _, by omega, by omega, rfl, rfl, F, N, by rw [s2]; exact IntsAre.append hus (.cons _ _ .nil)⟩
  · refine Stop.out ?_
    have hk : k = 32 := by have : ¬ (k : Int) < 32 := by assumption
                           omega
    subst hk
    exact next _ _ D us ep o8' F N hus e8 hD
end
end Mine
end

section
open PySem PySem.W PySem.Calls PyProof.Rows
set_option Elab.async false
namespace Mine
set_option maxRecDepth 100000
set_option maxHeartbeats 4000000

section
variable {M : Model} {A : Around} {E : Value → Shared → Prop} {s : Shared} {scope : Scope} {cl : List (Str × Addr)} {C : Addr} {env : Env} {h₀ : Heap} {m : Str → Option Value} {x : Str} {pos : Pos} {v : Value} {Q : Value → Shared → Prop}
/-- a cell's name in a comprehension, its cell in what stood before -/
theorem nameQ_F {c : Addr} (F : Fr h₀ C s.heap m) (hc : cl.lookup x = some c) (hv : h₀.IsCell c (some v)) (h : Q v s)
    (hk : scope.kind = .function) (hx : (compEnvC scope cl C env).kindOf x = some .cell) (hd : (x == ("__debug__" : Str)) = false) :
    wpAny M A (eval (.Name x pos) (compEnvC scope cl C env)) Q E s := wpAny_Name (wpAny_loadName_cell (env := compEnvC scope cl C env) hk hx hc (hv.keeps F.keep) h) hd
end

section
variable {prog : Program} {w : World} {A : Around} {gens : Array GenState} {drawn : Drawn} {os : OsState} {tk : Nat} {E : Value → Shared → Prop}
  {g hp : Heap} {m : Str → Option Value} {news : List (Addr × Obj)} {env : Env} {elt iter : Expr} {x : Str} {px : Pos} {scope : Scope} {cl : List (Str × Addr)} {pos : Pos}

theorem lc_range_assign {a c : Int} (hc : c ≠ 0) {n : Nat} (Fv : Nat → Value → Prop) {y : Str} {py spos : Pos} {Q : Flow → Shared → Prop} (hh : A.handled = none) (F : Fr g env.locals hp m) (N : News g env.locals hp news) (hsz : n ≤ 2 ^ 20)
    (hsw : swapsWith (.ListComp elt [⟨.Name x px, iter, [], 0⟩] scope pos) (some (.Name y py)) spos.line env = pure true)
    (hclos : closureFor scope env = pure cl) (hcell : ∀ y ∈ scope.names, y.2 ≠ .cell) (hkind : scope.kind = .function)
    (hnames : ∀ y ∈ scope.names, y.2 = .local → scope.names.lookup y.1 = some .local) (hx : scope.names.lookup x = some .local)
    (hy : env.kindOf y = some .local) (hfun : env.scope.kind = .function)
    (hit : wpAny (model prog w) A (eval iter env) (RangeIt hp gens drawn os a c n) E ⟨hp, gens, drawn, tk, os⟩)
    (helt : ∀ (C : Addr) (i : Nat) (t : Tok) (s₃ : Shared) (m₃ : Str → Option Value), i < n → Fr hp C s₃.heap m₃ → m₃ x = some (.int (a + (i : Int) * c) t) →
      wpAny (model prog w) A (eval elt (compEnvC scope cl C env)) (fun y s₄ => Fv i y ∧ Keeps s₃ s₄) (fun _ _ => False) s₃)
    (hQ : ∀ D h' tk' ys k, Fr g env.locals h' (upd m y (.ref D)) → News g env.locals h' ((D, listOf ys k) :: news) → (∀ p ∈ news, p.1 ≠ D) → Row Fv n ys → Q .next ⟨h', gens, drawn, tk', os⟩)
    (hs : ∀ x, foldedSetIterable iter env x = pure x) :
    wpAny (model prog w) A (exec (.Assign [.Name y py] (.ListComp elt [⟨.Name x px, iter, [], 0⟩] scope pos) spos) env) Q E ⟨hp, gens, drawn, tk, os⟩ := by
  refine wpAny_Assign_ListComp_free (fun _ => true) (fun v y => ∀ (j : Nat) t, j < n → v = .int (a + (j : Int) * c) t → Fv j y) hsw hclos hcell hkind hnames hx hy (by rw [hfun]; rfl) (wpAny_mono hit (fun xv s₁ h₁ => ?_) fun _ _ e => e) hs
  refine gen_goal fun GX hGX => ?_
  obtain ⟨r, b, t0, u0, v0, h₁, tk1, rfl, rfl, hr, hsmall, hn, hk1, h2⟩ := h₁
  refine hGX ?_
  clear hGX
  have nL : env.locals ≠ h₁.objs.size := Nat.ne_of_lt (Nat.lt_of_lt_of_le F.ns.lt h2)
  refine wpAny_pyIter_range hr hsmall ⟨h₁.objs.size, [h₁.objs.size], [h₁.objs.size], n, _, _, m, rfl, (Walks.range hh _ a c n).bound, by rw [sizeLine_eq]; omega, (by show IsRangeIter _ _ _ _ _; rw [hn]; simpa using Heap.get?_push_size _ rfl), ?_, ?_, ?_, ⟨?_, ?_⟩, ?_⟩
  · intro b hb
    show b < (h₁.push _).objs.size
    rw [Heap.size_push]
    rcases List.mem_cons.mp hb with rfl | hb
    · exact Nat.lt_succ_self _
    · cases hb
  · intro hm
    rcases List.mem_cons.mp hm with q | hm
    · exact nL q
    · cases hm
  · exact F.ns.keeps fun b o e => Heap.get?_push_of_some _ (hk1 _ _ e)
  · intro C i v s₃ m₃ E' _ _ _ _ _ _
    exact wpAny_pure ⟨rfl, s₃.heap, s₃.toks, rfl, fun _ _ e => e⟩
  · intro C i v s₃ m₃ E' hC hP _ hn' hm hk _
    obtain ⟨hi, t, rfl⟩ := hP
    have F3 : Fr hp C s₃.heap m₃ := ⟨hn', fun b o e => hk b o (fun hm => by rcases List.mem_cons.mp hm with rfl | hm; exact Nat.lt_irrefl _ (Heap.lt_size (hk1 _ _ e)); cases hm) (Heap.get?_push_of_some _ (hk1 _ _ e)), by
      have h1 : h₁.objs.size + 1 ≤ C := by rw [Heap.size_push] at hC; exact hC
      exact Nat.le_trans h2 (Nat.le_of_succ_le h1)⟩
    refine wpAny_mono (helt C i t s₃ m₃ hi F3 hm) (fun y s₄ h₄ => ⟨fun j t' hj e => ?_, h₄.2⟩) fun _ _ e => e.elim
    have e2 : a + (i : Int) * c = a + (j : Int) * c := (Value.int.inj e).1
    have e3 : (i : Int) * c = (j : Int) * c := by omega
    have e4 : (i : Int) = j := Int.eq_of_mul_eq_mul_right hc e3
    obtain rfl : i = j := by omega
    exact h₄.1
  · intro D h' tk' ys vs hD _ hpl hlen hP hF hns hk
    dsimp only at hD
    have hk' : ∀ b o, b ≠ env.locals → hp.get? b = some o → h'.get? b = some o := fun b o hbL e => hk b o hbL (fun hm => by rcases List.mem_cons.mp hm with rfl | hm; exact Nat.lt_irrefl _ (Heap.lt_size (hk1 _ _ e)); cases hm) (Heap.get?_push_of_some _ (hk1 _ _ e))
    obtain ⟨k, hk2⟩ := hpl
    have hDn : ∀ b o, hp.get? b = some o → b ≠ D := fun b' o e q => by
      have e2 : (h₁.push { cls := .type "range_iterator", data := .fields #[rawInt a, rawInt (Builtin.Range.rangeSize a b c), rawInt c] }).get? b' = some o := Heap.get?_push_of_some _ (hk1 _ _ e)
      subst q
      rw [hD] at e2
      cases e2
    rw [List.filter_eq_self.mpr (fun _ _ => rfl)] at hF
    have hrow := paired_row hc hlen (fun j v e => hP j v e) hF
    rw [Array.toArray_toList] at hrow
    have hgL : g.get? env.locals = none := by
      cases e : g.get? env.locals with
      | none => rfl
      | some o => exact absurd (Heap.lt_size e) (Nat.not_lt.mpr F.above)
    refine hQ D h' tk' ys k ⟨hns, fun b o e => hk' b o (fun q => by rw [q, hgL] at e; cases e) (F.keep b o e), F.above⟩ (fun p hp' => ?_) (fun p hp' => hDn p.1 p.2 (N p hp').1) hrow
    rcases List.mem_cons.mp hp' with rfl | hp'
    · obtain ⟨oL, _, _, hL, _⟩ := F.ns
      refine ⟨hk2, fun q => hDn env.locals oL hL q.symm, ?_⟩
      cases q : g.get? D with
      | none => rfl
      | some o =>
        have : D ≠ env.locals := fun q => hDn env.locals oL hL q.symm
        exact absurd rfl (hDn D o (F.keep _ _ q))
    · exact ⟨hk' _ _ (N p hp').2.1 (N p hp').1, (N p hp').2⟩
end
end Mine
end

section
open PySem PySem.W PySem.Calls PyProof.Rows
open Mine
local macro_rules | `(tactic| walk_at "eval Name") => `(tactic| (k_here; (with_reducible show wpAny _ _ (eval _ (compEnvC _ _ _ _)) _ _ _); k_dflt (refine' nameQ_L ?k1 ?k2 ?_ ?k3 ?k4 ?k5; (case k4 => exact rfl); (case k1 => k_asm); (case k2 => first | assumption | exact rfl); (case k3 => exact rfl); (case k5 => decide); k_whole)))
local macro_rules | `(tactic| walk_at "eval Name") => `(tactic| (k_here; (with_reducible show wpAny _ _ (eval _ (compEnvC _ _ _ _)) _ _ _); k_dflt (refine' nameQ_F ?k1 ?k2 ?kc ?_ ?k3 ?k4 ?k5; (case k4 => exact rfl); (case k1 => k_asm); (case k2 => exact rfl); (case kc => assumption); (case k3 => exact rfl); (case k5 => decide); k_whole)))
local macro_rules | `(tactic| walk_at "eval Name") => `(tactic| (k_here; (with_reducible show wpAny _ _ (eval _ (compEnvC _ _ _ _)) _ _ _); k_dflt (refine' nameQ_B ?kG ?k1 ?k2 ?kv ?kn ?_ ?kg ?kb ?k3 ?k4 ?k5; (case k4 => exact rfl); (case k1 => k_asm); (case kG => assumption); (case k2 => k_is); (case kv => boot_fast); (case kn => decide); (case kg => exact rfl); (case kb => exact rfl); (case k3 => exact rfl); (case k5 => decide); k_whole)))

section
open PySem PySem.W PySem.Calls PyProof.Rows
set_option Elab.async false
namespace Mine
set_option maxRecDepth 100000
set_option maxHeartbeats 8000000

theorem fillW2 (h : PySem.Challenge.rw_ta0035_01.about = [] → hd.heap_39 = hd.heap_39) : (PySem.Challenge.rw_ta0035_01.about = [] → hd.heap_39 = hd.heap_39) := by
  k_fill
  exact h

section
variable {prog : Program} {w : World} {A : Around} {E : Value → Shared → Prop} {s : Shared} {h₀ : Heap} {L l : Addr} {m : Str → Option Value} {news : List (Addr × Obj)} {vs : List Value} {ns : List Int} {a b c : Option Int} {o : Obj}
theorem three_ints {ys : Array Value} (hrow : Row (fun _ y => ∃ z t, y = .int z t) 3 ys) : ∃ z0 t0 z1 t1 z2 t2, ys = #[.int z0 t0, .int z1 t1, .int z2 t2] := by
  obtain ⟨hs, hr⟩ := hrow
  obtain ⟨ys⟩ := ys
  obtain ⟨y0, r0, rfl⟩ := List.exists_cons_of_length_eq_add_one hs
  obtain ⟨y1, r1, rfl⟩ := List.exists_cons_of_length_eq_add_one (l := r0) (Nat.succ.inj hs)
  obtain ⟨y2, r2, rfl⟩ := List.exists_cons_of_length_eq_add_one (l := r1) (Nat.succ.inj (Nat.succ.inj hs))
  obtain rfl := List.eq_nil_of_length_eq_zero (Nat.succ.inj (Nat.succ.inj (Nat.succ.inj hs)))
  obtain ⟨z0, t0, rfl⟩ := hr 0 _ rfl
  obtain ⟨z1, t1, rfl⟩ := hr 1 _ rfl
  obtain ⟨z2, t2, rfl⟩ := hr 2 _ rfl
  exact ⟨_, _, _, _, _, _, rfl⟩

theorem sub_at {value slice : Expr} {items : Array Value} {k : Int} {u : Tok} {x : Value} {Q : Value → Shared → Prop} (hl : s.heap.IsList l items)
    (h0 : 0 ≤ k) (hfit : k < 2 ^ 63) (hx : items[k.toNat]? = some x) (h : Q x s)
    (hs : subscripted slice false (.ref l) (.int k u) = operate [.ref l, .int k u] (getItem (.ref l) (.int k u)) := by with_unfolding_all rfl) :
    wpAny (model prog w) A (subscriptTail value slice (.ref l) (.int k u)) Q E s :=
  tail_any hl.typeIs slot_list_getitem.lookup (wpAny_getItem_list hl h0 hfit hx h) hs
theorem newList_low {ys : List Value} {Q : Value → Shared → Prop} (h : Q (.ref s.heap.objs.size) { s with heap := s.heap.push { cls := .type "list", data := .seq ys.toArray } }) (hsz : ys.length ≤ sizeLine) :
    wpAny (model prog w) A (newList ys) Q E s := wpAny_newObj_type h (by show ys.toArray.size ≤ sizeLine; rw [List.size_toArray]; exact hsz)
theorem slice_low {value slice : Expr} {items : Array Value} {vl vu vk : Value} {lo hi st : Option Int} {ops : List Value} {Q : Value → Shared → Prop}
    (hl : s.heap.IsList l items) (pl : IsPart vl lo) (pu : IsPart vu hi) (pk : IsPart vk st) (h0 : st ≠ some 0)
    (h : ∀ h', (∀ b o, s.heap.get? b = some o → h'.get? b = some o) → h'.get? (s.heap.objs.size + 1) = some { cls := .type "list", data := .seq (slicePick items lo hi st) } → s.heap.objs.size ≤ h'.objs.size → Q (.ref (s.heap.objs.size + 1)) { s with heap := h' })
    (hs : subscripted slice false (.ref l) (.ref s.heap.objs.size) = operate ops (getItem (.ref l) (.ref s.heap.objs.size)))
    (ht : ∀ r, letTemporaryGo value (.ref l) r = pure ())
    (hsz : items.size ≤ sizeLine) :
    wpAny (model prog w) A (subscriptTail value slice (.ref l) (.ref s.heap.objs.size)) Q E { s with heap := s.heap.push { cls := .type "slice", data := .fields #[vl, vu, vk] } } := by
  refine subscriptTail_ops (Heap.IsList.typeIs (s := { s with heap := s.heap.push { cls := .type "slice", data := .fields #[vl, vu, vk] } }) (hl.push _)) list_getitem_lookup
    (wpAny_getItem_list_slice (hl.push _) (Heap.IsSliceOf.new ..) pl pu pk h0 ?_ hsz) hs ht
  have e : (s.heap.push { cls := .type "slice", data := .fields #[vl, vu, vk] }).objs.size = s.heap.objs.size + 1 := Heap.size_push ..
  show Q (.ref (s.heap.push _).objs.size) _
  rw [Heap.size_push]
  refine h _ (fun b o q => Heap.get?_push_of_some _ (Heap.get?_push_of_some _ q)) ?_ ?_
  · rw [← e]
    exact Heap.get?_push_size _ rfl
  · rw [Heap.size_push, Heap.size_push]
    exact Nat.le_succ_of_le (Nat.le_succ _)
theorem sum_low {Q : Value → Shared → Prop} (hh : A.handled = none) (hl : s.heap.IsList l vs.toArray) (hi : IntsAre vs ns)
    (h : ∀ h' tk t', (∀ b o, s.heap.get? b = some o → h'.get? b = some o) → Q (.int ns.sum t') { s with heap := h', toks := tk }) : wpAny (model prog w) A (call (.builtin "sum") [.ref l]) Q E s := by
  obtain ⟨xs, hx⟩ := hi.allInts.items
  have hl' : s.heap.IsList l (intItems xs) := hx ▸ hl
  refine sum_intListG hh hl' fun h' tk t' hk => ?_
  have e1 : ns = xs.toList.map (·.1) := by
    rw [← nums_intItems, ← hx]
    exact (show numsOf vs.toArray.toList = ns from hi.numsOf).symm
  have e2 : preSum (numAt xs) xs.size = ns.sum := by
    rw [preSum_eq, List.take_of_length_le (by simp), e1]
  rw [e2]
  exact h h' tk t' hk
theorem sum_slice {Q : Value → Shared → Prop} (hh : A.handled = none) (hl : s.heap.get? l = some { cls := .type "list", data := .seq (slicePick vs.toArray a b c) }) (hi : IntsAre vs ns)
    (h : ∀ h' tk t' z, (∀ b o, s.heap.get? b = some o → h'.get? b = some o) → Q (.int z t') { s with heap := h', toks := tk }) : wpAny (model prog w) A (call (.builtin "sum") [.ref l]) Q E s := by
  refine sum_low hh (vs := (slicePick vs.toArray a b c).toList) ?_ (IntsAre.pick hi a b c) fun h' tk t' hk => h h' tk t' _ hk
  rw [Array.toArray_toList]
  exact ⟨_, hl, rfl, 0, rfl⟩
end

section
variable {w : World} {A : Around} {lo : List Str} {mean : ExcName → Option Value} {mg mb : Str → Option Value} {g : Heap}
local macro_rules | `(tactic| walk_at "newList") => `(tactic| refine Stop.intro ?_)
local macro_rules | `(tactic| walk_at "subscriptTail Name Slice ref ref") => `(tactic| refine Stop.intro ?_)
local macro_rules | `(tactic| walk_at "execs cons Assign cons") => `(tactic| ((with_reducible show wpAny _ _ (execs (Stmt.Assign _ (Expr.Call (Expr.Name (Str.ofString "_law_places") _) _ _ _) _ :: _) _) _ _ _); refine Stop.intro ?_))

set_option pp.deepTerms false in
theorem seg_b {gens : Array GenState} {drawn : Drawn} {os : OsState} {tk : Nat} {hp : Heap} {L fa : Addr} {cd : Value} {m : Str → Option Value} {Q : Flow → Shared → Prop} {o0 o1 o2 o3 o4 o5 o6 o7 o8 o9 q78 q71 : Obj} {tl : List (Addr × Obj)}
   (K : LawK w lo mean mg mb g A L) (F : Fr g L hp m)
   (N : News g L hp ((L + 1 + 1 + 1 + 1 + 1 + 1 + 1 + 1 + 1 + 1, o0) :: (L + 1 + 1 + 1 + 1 + 1 + 1 + 1 + 1 + 1, o1) :: (L + 1 + 1 + 1 + 1 + 1 + 1 + 1 + 1, o2) :: (L + 1 + 1 + 1 + 1 + 1 + 1 + 1, o3) :: (L + 1 + 1 + 1 + 1 + 1 + 1, o4) :: (L + 1 + 1 + 1 + 1 + 1, o5) :: (L + 1 + 1 + 1 + 1, o6) :: (L + 1 + 1 + 1, o7) :: (L + 1 + 1, o8) :: (L + 1, o9) :: (78, q78) :: (71, q71) :: tl)) (htl : ∀ p ∈ tl, @LT.lt Nat _ (L + 1 + 1 + 1 + 1 + 1 + 1 + 1 + 1 + 1 + 1) p.1)
   {sl : Addr} {vs : List Value} {ns : List Int} (hsl : g.IsList sl vs.toArray) (hvs : IntsAre vs ns) (hns : ns.length ≤ 63)
   (e9 : o9.data = .cell (some (.ref sl)))
   (next : ∀ h' tk' m' a ta b tb c tc e te wd tw, Fr g L h' m' → News g L h' ((L + 1 + 1 + 1 + 1 + 1 + 1 + 1 + 1 + 1 + 1, o0) :: (L + 1 + 1 + 1 + 1 + 1 + 1 + 1 + 1 + 1, o1) :: (L + 1 + 1 + 1 + 1 + 1 + 1 + 1 + 1, o2) :: (L + 1 + 1 + 1 + 1 + 1 + 1 + 1, o3) :: (L + 1 + 1 + 1 + 1 + 1 + 1, o4) :: (L + 1 + 1 + 1 + 1 + 1, o5) :: (L + 1 + 1 + 1 + 1, o6) :: (L + 1 + 1 + 1, o7) :: (L + 1 + 1, o8) :: (L + 1, o9) :: (78, q78) :: (71, q71) :: tl) → m' (Str.ofString "a") = some (.int a ta) → m' (Str.ofString "b") = some (.int b tb) → m' (Str.ofString "c") = some (.int c tc) →
     m' (Str.ofString "end") = some (.str e te) → m' (Str.ofString "width") = some (.int wd tw) → (1 ≤ a ∧ a ≤ 54) → (1 ≤ b ∧ b ≤ 20) → (1 ≤ c ∧ c ≤ 12) → IsEnd e.cps.toList → (3 ≤ wd ∧ wd ≤ 42) →
     wpAny (model prog0 w) A (execs (lawBody.drop 8) (envOfC (Str.ofString "law") lawScope L fa cd)) Q (fun _ _ => False) ⟨h', gens, drawn, tk', os⟩) :
   wpAny (model prog0 w) A (execs (lawBody.drop 2) (envOfC (Str.ofString "law") lawScope L fa cd)) Q (fun _ _ => False) ⟨hp, gens, drawn, tk, os⟩ := by
  conv in execs _ _ =>
    congr
    · whnf
    · arg 2
      whnf
  dsimp only
  have KX := K.B.G.X
  have T := K.B.G.T
  have hL := K.hL
  have hA := K.hA
  w_top on
  k_steps
  refine Stop.out ?_
  refine wpAny_execs_cons ?_
  have hS : hp.IsCell (L + 1) (some (.ref sl)) := cell_of (c := L + 1) N e9 (by k_mem)
  have G1 : Gd w lo mean mg mb hp := K.B.G.keeps F.keep
  have hsl1 := IsList.keepsAll hsl F.keep
  refine lc_range_assign (a := 0) (c := 1) (n := 3) (by decide) (fun _ y => ∃ z t, y = .int z t) hA.hh F N (by decide) rfl rfl (by decide) rfl (by decide) rfl rfl rfl ?_ ?_ ?_ (fun _ => rfl)
  · k_steps
    refine Stop.out ?_
    refine call_range_1 ?_
    refine ⟨_, _, _, _, _, _, _, rfl, rfl, Heap.get?_push_size _ rfl, small_one (by decide) (by decide) (by omega) (by omega), rfl, fun b o e => Heap.get?_push_of_some _ e, by rw [Heap.size_push]; exact Nat.le_succ _⟩
  · intro C i t s₃ m₃ hi F3 hm
    obtain ⟨h3, gens3, drawn3, toks3, os3⟩ := s₃
    dsimp only at *
    have N3 : News hp C h3 [] := News.nil
    have hS3 := hS.keeps F3.keep
    have i3 : i = 0 ∨ i = 1 ∨ i = 2 := lt3 (by assumption)
    k_steps
    refine Stop.out ?_
    refine newList_low ?_ (by rw [sizeLine_eq]; exact Nat.le_of_ble_eq_true rfl)
    have F4 := F3.push { cls := .type "list", data := .seq #[.int 3 toks3, .int 3 (toks3 + 1), .int 0 (toks3 + 1 + 1)] }
    have N4 := N3.push F3 { cls := .type "list", data := .seq #[.int 3 toks3, .int 3 (toks3 + 1), .int 0 (toks3 + 1 + 1)] }
    rcases i3 with rfl | rfl | rfl
    all_goals k_steps
    all_goals refine Stop.out ?_
    all_goals refine slice_low (IsList.keepsAll hsl1 F4.keep) (.int _ _) .none (.int _ _) (by decide) (fun h5 hk5 hq5 hz5 => ?_) (by with_unfolding_all rfl) (by intro _; with_unfolding_all rfl) (by have := IntsAre.length hvs; rw [List.size_toArray, this, sizeLine_eq]; omega)
    all_goals k_steps
    all_goals refine Stop.out ?_
    all_goals refine sum_slice hA.hh hq5 hvs fun h6 tk6 t6 z6 hk6 => ?_
    all_goals k_steps
    all_goals exact ⟨_, _, rfl, fun b o e => hk6 _ _ (hk5 _ _ (Heap.get?_push_of_some _ e))⟩
  · intro D h' tk' ys k F N hne hrow
    have h3 : ∃ z0 t0 z1 t1 z2 t2, ys = #[.int z0 t0, .int z1 t1, .int z2 t2] := by
      exact three_ints hrow
    obtain ⟨z0, t0, z1, t1, z2, t2, rfl⟩ := h3
    k_steps
    refine Stop.out ?_
    (with_reducible rename Fr _ _ _ _ => F4)
    (with_reducible rename News _ _ _ _ => N4)
    refine newList_N F4 N4 (fun h9 F5 N5 => ?_) (by rw [sizeLine_eq]; exact Nat.le_of_ble_eq_true rfl)
    clear F4 N4
    dsimp only
    k_steps
    refine Stop.out ?_
    refine LSm.sum_ints F5 N5 hA.hh (vs := [.int z0 t0, .int z1 t1, .int z2 t2]) ⟨_, (N5 (D, listOf #[.int z0 t0, .int z1 t1, .int z2 t2] k) (.tail _ (.head _))).1, rfl, k, rfl⟩ (.cons _ _ (.cons _ _ (.cons _ _ .nil))) (fun h' tk t' F6 N6 => ?_)
    generalize hz : ([z0, z1, z2] : List Int).sum = z
    clear F5 N5
    have hz3 : z.fmod 3 = 0 ∨ z.fmod 3 = 1 ∨ z.fmod 3 = 2 := by rw [Int.fmod_eq_emod_of_nonneg _ (by decide)]; exact mod3 z
    k_steps
    have hl9 := (N6 _ (.head _)).1
    have hx : ∀ t1 t2 t3 : Tok, ∃ e te, (#[Value.str (Str.ofString "\n") t1, .str (Str.ofString "\x0d") t2, .str (Str.ofString "\x0d\n") t3] : Array Value)[(z.fmod 3).toNat]? = some (.str e te) ∧ IsEnd e.cps.toList := by
      intro t1 t2 t3
      rcases hz3 with h | h | h <;> rw [h]
      · exact ⟨_, _, rfl, .inl (by decide +kernel)⟩
      · exact ⟨_, _, rfl, .inr (.inl (by decide +kernel))⟩
      · exact ⟨_, _, rfl, .inr (.inr (by decide +kernel))⟩
    obtain ⟨e, te, hx1, hx2⟩ := hx _ _ _
    refine sub_at ⟨_, hl9, rfl, _, rfl⟩ (by omega) (by omega) hx1 ?_
    k_steps
    refine Stop.out ?_
    (with_reducible rename Fr _ _ _ _ => F7)
    (with_reducible rename News _ _ _ _ => N7)
    refine LSm.sum_ints F7 N7 hA.hh (vs := [.int z0 t0, .int z1 t1, .int z2 t2]) ⟨_, (N7 (D, listOf #[.int z0 t0, .int z1 t1, .int z2 t2] k) (.tail _ (.head _))).1, rfl, k, rfl⟩ (.cons _ _ (.cons _ _ (.cons _ _ .nil))) (fun h' tk t' F8 N8 => ?_)
    rw [hz]
    clear F7 N7
    k_steps
    refine Stop.out ?_
    (with_reducible rename Fr _ _ _ _ => F9)
    (with_reducible rename News _ _ _ _ => N9)
    have r1 : ∀ x y : Int, 0 < y → 1 ≤ 1 + x.fmod y ∧ 1 + x.fmod y ≤ y := fun x y hy => by
      rw [Int.fmod_eq_emod_of_nonneg _ (Int.le_of_lt hy)]
      have h1 := Int.emod_nonneg x (Int.ne_of_gt hy)
      have h2 := Int.emod_lt_of_pos x hy
      omega
    have r3 := r1 (if z < 0 then -z else z) 40 (by decide)
    exact next _ _ _ _ _ _ _ _ _ _ _ _ _ F9 (fun p hp' => N9 p (.tail _ (.tail _ hp'))) rfl rfl rfl rfl rfl (r1 _ _ (by decide)) (r1 _ _ (by decide)) (r1 _ _ (by decide)) hx2 (by omega)
end
end Mine
end

section
open PySem PySem.W PySem.Calls PyProof.Rows
set_option Elab.async false
namespace Mine
set_option maxRecDepth 100000
set_option maxHeartbeats 4000000

/-- a ledger's tail that carries a maker's code -/
noncomputable def TabT (g : Heap) (tl : List (Addr × Obj)) (P : Addr) (line col : Int) (q : Str) (oP : Obj) : Prop :=
  ∀ h' : Heap, (∀ b o, g.get? b = some o → h'.get? b = some o) → (∀ p ∈ tl, h'.get? p.1 = some p.2) → h'.get? P = some oP → TabS P line col q h'

theorem TabT.more {g : Heap} {tl tl' : List (Addr × Obj)} {P : Addr} {line col : Int} {q : Str} {oP : Obj} (x : TabT g tl P line col q oP) (h : ∀ p ∈ tl, p ∈ tl') : TabT g tl' P line col q oP :=
  fun h' a b c => x h' a (fun p hp => b p (h p hp)) c

abbrev TT71 (g : Heap) (tl : List (Addr × Obj)) (o : Obj) : Prop := TabT g tl 71 41 4 (Str.ofString "_int2digits.<locals>.inner") o
abbrev TT78 (g : Heap) (tl : List (Addr × Obj)) (o : Obj) : Prop := TabT g tl 78 56 4 (Str.ofString "_digits2int.<locals>.inner") o

/-- the law's ledger: cells, tables, the rest -/
structure Led (g : Heap) (L : Addr) (h : Heap) (m : Str → Option Value) (cs : List (Addr × Obj)) (q78 q71 : Obj) (tl : List (Addr × Obj)) : Prop where
  F : Fr g L h m
  N : News g L h (cs ++ (78, q78) :: (71, q71) :: tl)
  off : ∀ p ∈ tl, Off L p.1
  t78 : TT78 g tl q78
  t71 : TT71 g tl q71
  cl : ∀ p ∈ cs, ∃ v, p.2.data = .cell v
  ca : ∀ a : Nat, L < a ∧ a ≤ L + 10 → ∃ o, (a, o) ∈ cs

theorem Led.T71 {g : Heap} {L : Addr} {h : Heap} {m : Str → Option Value} {cs : List (Addr × Obj)} {q78 q71 : Obj} {tl : List (Addr × Obj)} (x : Led g L h m cs q78 q71 tl) : T71 h :=
  x.t71 h x.F.keep (fun p hp => (x.N p (List.mem_append_right _ (.tail _ (.tail _ hp)))).1) (x.N (71, q71) (List.mem_append_right _ (.tail _ (.head _)))).1
theorem Led.T78 {g : Heap} {L : Addr} {h : Heap} {m : Str → Option Value} {cs : List (Addr × Obj)} {q78 q71 : Obj} {tl : List (Addr × Obj)} (x : Led g L h m cs q78 q71 tl) : T78 h :=
  x.t78 h x.F.keep (fun p hp => (x.N p (List.mem_append_right _ (.tail _ (.tail _ hp)))).1) (x.N (78, q78) (List.mem_append_right _ (.head _))).1

theorem Led.get {g : Heap} {L : Addr} {h : Heap} {m : Str → Option Value} {cs : List (Addr × Obj)} {q78 q71 : Obj} {tl : List (Addr × Obj)} (x : Led g L h m cs q78 q71 tl) {p : Addr × Obj} (hp : p ∈ tl) : h.get? p.1 = some p.2 :=
  (x.N p (List.mem_append_right _ (.tail _ (.tail _ hp)))).1

theorem Led.isList {g : Heap} {L : Addr} {h : Heap} {m : Str → Option Value} {cs : List (Addr × Obj)} {q78 q71 : Obj} {tl : List (Addr × Obj)} (x : Led g L h m cs q78 q71 tl) {a : Addr} {its : Array Value} {n : Nat} (hp : (a, listOf its n) ∈ tl) : h.IsList a its :=
  ⟨_, x.get hp, rfl, n, rfl⟩

/-- what stood before stays, and something is made -/
theorem Led.keeps {g : Heap} {L : Addr} {h h' : Heap} {m : Str → Option Value} {cs : List (Addr × Obj)} {q78 q71 : Obj} {tl : List (Addr × Obj)} (x : Led g L h m cs q78 q71 tl) (hk : ∀ b o, h.get? b = some o → h'.get? b = some o)
    {new : List (Addr × Obj)} (hn : ∀ p ∈ new, h'.get? p.1 = some p.2 ∧ h.get? p.1 = none) : Led g L h' m cs q78 q71 (new ++ tl) := by
  have nn : ∀ p ∈ new, ∀ a o, h.get? a = some o → p.1 ≠ a := fun p hp a o e q => by
    have := (hn p hp).2
    rw [q, e] at this; cases this
  refine ⟨Fr.keepsAll x.F hk, ?_, ?_, x.t78.more fun p hp => List.mem_append_right _ hp, x.t71.more fun p hp => List.mem_append_right _ hp, x.cl, x.ca⟩
  · intro p hp
    have old : p ∈ cs ++ (78, q78) :: (71, q71) :: tl → h'.get? p.1 = some p.2 ∧ p.1 ≠ L ∧ g.get? p.1 = none := fun hp => ⟨hk _ _ (x.N p hp).1, (x.N p hp).2⟩
    rcases List.mem_append.mp hp with hp | hp
    · exact old (List.mem_append_left _ hp)
    · rcases List.mem_cons.mp hp with rfl | hp
      · exact old (List.mem_append_right _ (.head _))
      · rcases List.mem_cons.mp hp with rfl | hp
        · exact old (List.mem_append_right _ (.tail _ (.head _)))
        · rcases List.mem_append.mp hp with hp | hp
          · obtain ⟨oL, _, _, hL, _⟩ := x.F.ns
            refine ⟨(hn p hp).1, nn p hp _ _ hL, ?_⟩
            cases e : g.get? p.1 with
            | none => rfl
            | some o => exact absurd rfl (nn p hp _ _ (x.F.keep _ _ e))
          · exact old (List.mem_append_right _ (.tail _ (.tail _ hp)))
  · intro p hp
    rcases List.mem_append.mp hp with hp | hp
    · refine ⟨nn p hp _ _ (x.N (71, q71) (List.mem_append_right _ (.tail _ (.head _)))).1, nn p hp _ _ (x.N (78, q78) (List.mem_append_right _ (.head _))).1, ?_⟩
      rcases Nat.lt_or_ge L p.1 with h1 | h1
      · rcases Nat.lt_or_ge (L + 10) p.1 with h2 | h2
        · exact .inr h2
        · obtain ⟨o, ho⟩ := x.ca p.1 ⟨h1, h2⟩
          exact absurd rfl (nn p hp _ _ (x.N _ (List.mem_append_left _ ho)).1)
      · exact .inl h1
    · exact x.off p hp

/-- after a maker's call -/
theorem Led.but2 {g : Heap} {L : Addr} {h h' : Heap} {m : Str → Option Value} {cs : List (Addr × Obj)} {q78 q71 : Obj} {tl : List (Addr × Obj)} (x : Led g L h m cs q78 q71 tl) (hL : @LT.lt Nat _ 78 L) (n71 : g.get? 71 = none) (n78 : g.get? 78 = none)
    (hk : ∀ b o, b ∉ [71, 78] → h.get? b = some o → h'.get? b = some o) (h71 : Mine.T71 h') (h78 : Mine.T78 h')
    {new : List (Addr × Obj)} (hn : ∀ p ∈ new, h'.get? p.1 = some p.2 ∧ h.get? p.1 = none) : ∃ q78' q71' tl2, Led g L h' m cs q78' q71' (tl2 ++ (new ++ tl)) ∧ ∀ p ∈ tl2, ∃ vs, ∃ t : Tok, ∃ q, p.2.data = .fields vs ∧ vs[1]? = some (.str q t) := by
  have hL' : (78 : Nat) < L := hL
  have bne : ∀ b : Nat, b ≠ 71 → b ≠ 78 → b ∉ [71, 78] := fun b h1 h2 q => by
    rcases List.mem_cons.mp q with q | q
    · exact h1 q
    · rcases List.mem_cons.mp q with q | q
      · exact h2 q
      · cases q
  have F' : Fr g L h' m := ⟨x.F.ns.at' fun o e => hk _ _ (bne L (by omega) (by omega)) e, fun b o e => hk b o (bne b (fun q => by rw [q, n71] at e; cases e) (fun q => by rw [q, n78] at e; cases e)) (x.F.keep b o e), x.F.above⟩
  obtain ⟨q71', t1, g71, N1, _, d1, T1⟩ := tab_tail F' h71
  obtain ⟨q78', t2, g78, N2, _, d2, T2⟩ := tab_tail F' h78
  obtain ⟨oc71, ec71, nc71⟩ := h71.nocode
  obtain ⟨oc78, ec78, nc78⟩ := h78.nocode
  have m71 := (x.N (71, q71) (List.mem_append_right _ (.tail _ (.head _))))
  have m78 := (x.N (78, q78) (List.mem_append_right _ (.head _)))
  have cne : ∀ a, L < a ∧ a ≤ L + 10 → a ≠ 71 ∧ a ≠ 78 := fun a ⟨h1, _⟩ => by
    have h2 : @LT.lt Nat _ L a := h1
    exact ⟨fun q => by rw [q] at h2; omega, fun q => by rw [q] at h2; omega⟩
  have cs71 : ∀ p ∈ cs, p.1 ≠ 71 := fun p hp q => by
    obtain ⟨v, hv⟩ := x.cl p hp
    have e1 := (x.N p (List.mem_append_left _ hp)).1
    obtain ⟨ps, e2, _⟩ := x.T71
    rw [q, e2] at e1
    rw [← Option.some.inj e1] at hv
    cases hv
  have cs78 : ∀ p ∈ cs, p.1 ≠ 78 := fun p hp q => by
    obtain ⟨v, hv⟩ := x.cl p hp
    have e1 := (x.N p (List.mem_append_left _ hp)).1
    obtain ⟨ps, e2, _⟩ := x.T78
    rw [q, e2] at e1
    rw [← Option.some.inj e1] at hv
    cases hv
  have csk : ∀ p ∈ cs, h'.get? p.1 = some p.2 := fun p hp => hk _ _ (bne p.1 (cs71 p hp) (cs78 p hp)) (x.N p (List.mem_append_left _ hp)).1
  have tlk : ∀ p ∈ tl, h'.get? p.1 = some p.2 := fun p hp => hk _ _ (bne p.1 (x.off p hp).1 (x.off p hp).2.1) (x.get hp)
  have nn : ∀ p ∈ new, ∀ a o, h.get? a = some o → p.1 ≠ a := fun p hp a o e q => by
    have := (hn p hp).2
    rw [q, e] at this; cases this
  have offc : ∀ p : Addr × Obj, h'.get? p.1 = some p.2 → (∃ vs, ∃ t : Tok, ∃ q, p.2.data = .fields vs ∧ vs[1]? = some (.str q t)) → Off L p.1 := by
    rintro p e ⟨vs, t, q, e1, e2⟩
    refine ⟨fun z => ?_, fun z => ?_, ?_⟩
    · rw [z, ec71] at e
      rw [← Option.some.inj e] at e1
      exact nc71 _ _ _ e1 e2
    · rw [z, ec78] at e
      rw [← Option.some.inj e] at e1
      exact nc78 _ _ _ e1 e2
    · rcases Nat.lt_or_ge L p.1 with h1 | h1
      · rcases Nat.lt_or_ge (L + 10) p.1 with h2 | h2
        · exact .inr h2
        · obtain ⟨o, ho⟩ := x.ca p.1 ⟨h1, h2⟩
          have e3 := csk _ ho
          obtain ⟨v, hv⟩ := x.cl _ ho
          dsimp only at e3 hv
          rw [e3] at e
          rw [Option.some.inj e, e1] at hv
          cases hv
      · exact .inl h1
  refine ⟨q78', q71', t1 ++ t2, ⟨F', ?_, ?_, ?_, ?_, x.cl, x.ca⟩, fun p hp => ?_⟩
  · intro p hp
    rcases List.mem_append.mp hp with hp | hp
    · exact ⟨csk p hp, (x.N p (List.mem_append_left _ hp)).2⟩
    · rcases List.mem_cons.mp hp with rfl | hp
      · exact ⟨g78, m78.2⟩
      · rcases List.mem_cons.mp hp with rfl | hp
        · exact ⟨g71, m71.2⟩
        · rcases List.mem_append.mp hp with hp | hp
          · rcases List.mem_append.mp hp with hp | hp
            · exact N1 p hp
            · exact N2 p hp
          · rcases List.mem_append.mp hp with hp | hp
            · obtain ⟨oL, _, _, hL, _⟩ := x.F.ns
              refine ⟨(hn p hp).1, nn p hp _ _ hL, ?_⟩
              cases e : g.get? p.1 with
              | none => rfl
              | some o => exact absurd rfl (nn p hp _ _ (x.F.keep _ _ e))
            · exact ⟨tlk p hp, (x.N p (List.mem_append_right _ (.tail _ (.tail _ hp)))).2⟩
  · intro p hp
    rcases List.mem_append.mp hp with hp | hp
    · rcases List.mem_append.mp hp with hp | hp
      · exact offc p (N1 p hp).1 (d1 p hp)
      · exact offc p (N2 p hp).1 (d2 p hp)
    · rcases List.mem_append.mp hp with hp | hp
      · refine ⟨nn p hp _ _ m71.1, nn p hp _ _ m78.1, ?_⟩
        rcases Nat.lt_or_ge L p.1 with h1 | h1
        · rcases Nat.lt_or_ge (L + 10) p.1 with h2 | h2
          · exact .inr h2
          · obtain ⟨o, ho⟩ := x.ca p.1 ⟨h1, h2⟩
            exact absurd rfl (nn p hp _ _ (x.N _ (List.mem_append_left _ ho)).1)
        · exact .inl h1
      · exact x.off p hp
  · exact fun h'' a b c => T2 h'' a (fun p hp => b p (List.mem_append_left _ (List.mem_append_right _ hp))) c
  · exact fun h'' a b c => T1 h'' a (fun p hp => b p (List.mem_append_left _ (List.mem_append_left _ hp))) c
  · rcases List.mem_append.mp hp with hp | hp
    · exact d1 p hp
    · exact d2 p hp

theorem Led.but {g : Heap} {L : Addr} {h h' : Heap} {m : Str → Option Value} {cs : List (Addr × Obj)} {q78 q71 : Obj} {tl : List (Addr × Obj)} (x : Led g L h m cs q78 q71 tl) (hL : @LT.lt Nat _ 78 L) (n71 : g.get? 71 = none) (n78 : g.get? 78 = none)
    (hk : ∀ b o, b ∉ [71, 78] → h.get? b = some o → h'.get? b = some o) (h71 : Mine.T71 h') (h78 : Mine.T78 h')
    {new : List (Addr × Obj)} (hn : ∀ p ∈ new, h'.get? p.1 = some p.2 ∧ h.get? p.1 = none) : ∃ q78' q71' tl2, Led g L h' m cs q78' q71' (tl2 ++ (new ++ tl)) :=
  let ⟨a, b, c, X, _⟩ := x.but2 hL n71 n78 hk h71 h78 hn
  ⟨a, b, c, X⟩

theorem lt_split {n : Nat} {P : Nat → Prop} (h : ∀ i, i < n → P i) (hn : P n) : ∀ i, i < n + 1 → P i := fun i hi => (Nat.lt_succ_iff_lt_or_eq.mp hi).elim (h i) fun e => e ▸ hn

theorem c10_has {L : Addr} {o0 o1 o2 o3 o4 o5 o6 o7 o8 o9 : Obj} (a : Nat) (h : L < a ∧ a ≤ L + 10) : ∃ o, (a, o) ∈ ([(L + 1 + 1 + 1 + 1 + 1 + 1 + 1 + 1 + 1 + 1, o0), (L + 1 + 1 + 1 + 1 + 1 + 1 + 1 + 1 + 1, o1), (L + 1 + 1 + 1 + 1 + 1 + 1 + 1 + 1, o2), (L + 1 + 1 + 1 + 1 + 1 + 1 + 1, o3), (L + 1 + 1 + 1 + 1 + 1 + 1, o4), (L + 1 + 1 + 1 + 1 + 1, o5), (L + 1 + 1 + 1 + 1, o6), (L + 1 + 1 + 1, o7), (L + 1 + 1, o8), (L + 1, o9)] : List (Addr × Obj)) := by
  obtain ⟨k, rfl⟩ := Nat.exists_eq_add_of_le (show L + 1 ≤ a from h.1)
  have hk : k < 10 := Nat.lt_of_add_lt_add_left (show L + 1 + k < L + 1 + 10 from Nat.lt_succ_of_le h.2)
  clear h
  revert k
  refine lt_split (lt_split (lt_split (lt_split (lt_split (lt_split (lt_split (lt_split (lt_split (lt_split (fun _ h => absurd h (Nat.not_lt_zero _)) ?_) ?_) ?_) ?_) ?_) ?_) ?_) ?_) ?_) ?_
  · exact ⟨o9, .tail _ (.tail _ (.tail _ (.tail _ (.tail _ (.tail _ (.tail _ (.tail _ (.tail _ (.head _)))))))))⟩
  · exact ⟨o8, .tail _ (.tail _ (.tail _ (.tail _ (.tail _ (.tail _ (.tail _ (.tail _ (.head _))))))))⟩
  · exact ⟨o7, .tail _ (.tail _ (.tail _ (.tail _ (.tail _ (.tail _ (.tail _ (.head _)))))))⟩
  · exact ⟨o6, .tail _ (.tail _ (.tail _ (.tail _ (.tail _ (.tail _ (.head _))))))⟩
  · exact ⟨o5, .tail _ (.tail _ (.tail _ (.tail _ (.tail _ (.head _)))))⟩
  · exact ⟨o4, .tail _ (.tail _ (.tail _ (.tail _ (.head _))))⟩
  · exact ⟨o3, .tail _ (.tail _ (.tail _ (.head _)))⟩
  · exact ⟨o2, .tail _ (.tail _ (.head _))⟩
  · exact ⟨o1, .tail _ (.head _)⟩
  · exact ⟨o0, .head _⟩

theorem c10_cl {L : Addr} {o0 o1 o2 o3 o4 o5 o6 o7 o8 o9 : Obj} {v0 v1 v2 v3 v4 v5 v6 v7 v8 v9 : Option Value} (e0 : o0.data = .cell v0) (e1 : o1.data = .cell v1) (e2 : o2.data = .cell v2) (e3 : o3.data = .cell v3) (e4 : o4.data = .cell v4) (e5 : o5.data = .cell v5) (e6 : o6.data = .cell v6) (e7 : o7.data = .cell v7) (e8 : o8.data = .cell v8) (e9 : o9.data = .cell v9) :
    ∀ p ∈ ([(L + 1 + 1 + 1 + 1 + 1 + 1 + 1 + 1 + 1 + 1, o0), (L + 1 + 1 + 1 + 1 + 1 + 1 + 1 + 1 + 1, o1), (L + 1 + 1 + 1 + 1 + 1 + 1 + 1 + 1, o2), (L + 1 + 1 + 1 + 1 + 1 + 1 + 1, o3), (L + 1 + 1 + 1 + 1 + 1 + 1, o4), (L + 1 + 1 + 1 + 1 + 1, o5), (L + 1 + 1 + 1 + 1, o6), (L + 1 + 1 + 1, o7), (L + 1 + 1, o8), (L + 1, o9)] : List (Addr × Obj)), ∃ v, p.2.data = .cell v := by
  intro p hp
  simp only [List.mem_cons, List.not_mem_nil, or_false] at hp
  rcases hp with rfl | rfl | rfl | rfl | rfl | rfl | rfl | rfl | rfl | rfl
  · exact ⟨_, e0⟩
  · exact ⟨_, e1⟩
  · exact ⟨_, e2⟩
  · exact ⟨_, e3⟩
  · exact ⟨_, e4⟩
  · exact ⟨_, e5⟩
  · exact ⟨_, e6⟩
  · exact ⟨_, e7⟩
  · exact ⟨_, e8⟩
  · exact ⟨_, e9⟩

/-- the ledger in a loop: the iterator beside it -/
structure LedI (g : Heap) (L : Addr) (h : Heap) (m : Str → Option Value) (cs : List (Addr × Obj)) (q78 q71 : Obj) (tl : List (Addr × Obj)) (I : Addr) (o : Obj) : Prop where
  X : Led g L h m cs q78 q71 tl
  gI : h.get? I = some o
  iI : I ≠ L ∧ g.get? I = none
  nI : ∀ p ∈ cs ++ (78, q78) :: (71, q71) :: tl, p.1 ≠ I
  dI : ∀ vs (t : Tok) q, o.data = .fields vs → vs[1]? ≠ some (.str q t)

theorem LedI.N {g : Heap} {L : Addr} {h : Heap} {m : Str → Option Value} {cs : List (Addr × Obj)} {q78 q71 : Obj} {tl : List (Addr × Obj)} {I : Addr} {o : Obj} (x : LedI g L h m cs q78 q71 tl I o) : News g L h ((I, o) :: (cs ++ (78, q78) :: (71, q71) :: tl)) := fun p hp => by
  rcases List.mem_cons.mp hp with rfl | hp
  · exact ⟨x.gI, x.iI⟩
  · exact x.X.N p hp

theorem LedI.keeps {g : Heap} {L : Addr} {h h' : Heap} {m : Str → Option Value} {cs : List (Addr × Obj)} {q78 q71 : Obj} {tl : List (Addr × Obj)} {I : Addr} {o : Obj} (x : LedI g L h m cs q78 q71 tl I o) (hk : ∀ b o, h.get? b = some o → h'.get? b = some o)
    {new : List (Addr × Obj)} (hn : ∀ p ∈ new, h'.get? p.1 = some p.2 ∧ h.get? p.1 = none) : LedI g L h' m cs q78 q71 (new ++ tl) I o := by
  refine ⟨x.X.keeps hk hn, hk _ _ x.gI, x.iI, fun p hp => ?_, x.dI⟩
  rcases List.mem_append.mp hp with hp | hp
  · exact x.nI p (List.mem_append_left _ hp)
  · rcases List.mem_cons.mp hp with rfl | hp
    · exact x.nI _ (List.mem_append_right _ (.head _))
    · rcases List.mem_cons.mp hp with rfl | hp
      · exact x.nI _ (List.mem_append_right _ (.tail _ (.head _)))
      · rcases List.mem_append.mp hp with hp | hp
        · intro q
          have := (hn p hp).2
          rw [q, x.gI] at this; cases this
        · exact x.nI p (List.mem_append_right _ (.tail _ (.tail _ hp)))

theorem LedI.but {g : Heap} {L : Addr} {h h' : Heap} {m : Str → Option Value} {cs : List (Addr × Obj)} {q78 q71 : Obj} {tl : List (Addr × Obj)} {I : Addr} {o : Obj} (x : LedI g L h m cs q78 q71 tl I o) (hL : @LT.lt Nat _ 78 L) (n71 : g.get? 71 = none) (n78 : g.get? 78 = none)
    (hk : ∀ b o, b ∉ [71, 78] → h.get? b = some o → h'.get? b = some o) (h71 : Mine.T71 h') (h78 : Mine.T78 h')
    {new : List (Addr × Obj)} (hn : ∀ p ∈ new, h'.get? p.1 = some p.2 ∧ h.get? p.1 = none) : ∃ q78' q71' tl2, LedI g L h' m cs q78' q71' (tl2 ++ (new ++ tl)) I o := by
  obtain ⟨a, b, c, X, hc⟩ := x.X.but2 hL n71 n78 hk h71 h78 hn
  have i78 := x.nI (78, q78) (List.mem_append_right _ (.head _))
  have i71 := x.nI (71, q71) (List.mem_append_right _ (.tail _ (.head _)))
  have gI : h'.get? I = some o := hk _ _ (fun q => by
    rcases List.mem_cons.mp q with q | q
    · exact i71 q.symm
    · rcases List.mem_cons.mp q with q | q
      · exact i78 q.symm
      · cases q) x.gI
  refine ⟨a, b, c, X, gI, x.iI, fun p hp => ?_, x.dI⟩
  rcases List.mem_append.mp hp with hp | hp
  · exact x.nI p (List.mem_append_left _ hp)
  · rcases List.mem_cons.mp hp with rfl | hp
    · exact i78
    · rcases List.mem_cons.mp hp with rfl | hp
      · exact i71
      · rcases List.mem_append.mp hp with hp | hp
        · intro q
          obtain ⟨vs, t, r, e1, e2⟩ := hc p hp
          have e3 := X.get (List.mem_append_left _ hp)
          rw [q, gI] at e3
          rw [← Option.some.inj e3] at e1
          exact x.dI _ _ _ e1 e2
        · rcases List.mem_append.mp hp with hp | hp
          · intro q
            have := (hn p hp).2
            rw [q, x.gI] at this; cases this
          · exact x.nI p (List.mem_append_right _ (.tail _ (.tail _ hp)))
end Mine
end

section
open PySem PySem.W PySem.Calls PyProof.Rows
set_option Elab.async false
namespace Mine
set_option maxRecDepth 100000
set_option maxHeartbeats 4000000

theorem row_strOk (d : Int) : PyData.strOk (row d) = true := by
  show (rowL d.toNat).toArray.all _ = true
  rw [List.all_toArray, List.all_eq_true]
  intro x hx
  rw [(List.mem_replicate.mp hx).2]
  rfl
theorem lay_strs : ∀ l : List Str, (∀ x ∈ l, PyData.strOk x = true) → PyData.canLayAll0 (l.map PyData.str) = true ∧ PyData.depthAll (l.map PyData.str) = 0
  | [], _ => ⟨rfl, rfl⟩
  | a :: r, h => by
    have := lay_strs r fun x hx => h x (.tail _ hx)
    have h2 := h a (.head _)
    simp [PyData.canLayAll0, PyData.canLay0, PyData.depthAll, PyData.depth, this.1, this.2, h2]
theorem lay_rows : ∀ l : List (List Str), (∀ r ∈ l, ∀ x ∈ r, PyData.strOk x = true) → PyData.canLayAll0 (l.map fun r => PyData.list (r.map PyData.str)) = true ∧ PyData.depthAll (l.map fun r => PyData.list (r.map PyData.str)) ≤ 1
  | [], _ => ⟨rfl, Nat.zero_le _⟩
  | a :: r, h => by
    have h1 := lay_rows r fun x hx => h x (.tail _ hx)
    have h2 := lay_strs a (h a (.head _))
    simp only [List.map_cons, PyData.canLayAll0, PyData.canLay0, PyData.depthAll, PyData.depth, h1.1, h2.1, h2.2, Bool.and_self, true_and]
    exact Nat.max_le.mpr ⟨Nat.le_refl _, h1.2⟩

theorem reads_strs {h : Heap} : ∀ us : List (Str × Tok), ∃ as, ReadsAll h (strValues us) ((us.map (·.1)).map PyData.str) as
  | [] => ⟨_, .nil⟩
  | (x, t) :: r => let ⟨as, q⟩ := reads_strs r; ⟨_, .cons (.str x t) q⟩

theorem reads_idx {h : Heap} : ∀ (vs : List Value) (ds : List PyData), vs.length = ds.length → (∀ (i : Nat) v d, vs[i]? = some v → ds[i]? = some d → ∃ as, Reads h v d as) → ∃ as, ReadsAll h vs ds as
  | [], [], _, _ => ⟨_, .nil⟩
  | v :: vs, d :: ds, hl, hq => by
    obtain ⟨as, h1⟩ := hq 0 v d rfl rfl
    obtain ⟨bs, h2⟩ := reads_idx vs ds (by simpa using hl) fun i v' d' e1 e2 => hq (i + 1) v' d' (by simpa using e1) (by simpa using e2)
    exact ⟨_, .cons h1 h2⟩
  | [], _ :: _, hl, _ => by cases hl
  | _ :: _, [], hl, _ => by cases hl

/-- what the hands are, as data -/
noncomputable def handsD (ns : List Int) (K : Nat) : PyData := .list (((List.range K).map fun t => rowsAt ns t).map fun r => PyData.list (r.map PyData.str))

theorem reads_hands {h : Heap} {a : Addr} {items : Array Value} {n : Nat} {rest : List (Addr × Obj)} {ns : List Int} {K : Nat} (ha : h.get? a = some (listOf items n)) (hr : ∀ p ∈ rest, h.get? p.1 = some p.2) (hi : HandsIn rest items ns) (hK : items.size = K) : ∃ as, Reads h (.ref a) (handsD ns K) as := by
  obtain ⟨as, q⟩ := reads_idx (h := h) items.toList (((List.range K).map fun t => rowsAt ns t).map fun r => PyData.list (r.map PyData.str)) (by simp [hK]) fun i v d e1 e2 => by
    have hi' : i < items.size := by
      have := (List.getElem?_eq_some_iff.mp e1).1
      rwa [Array.length_toList] at this
    have e3 : items[i] = v := by
      rw [Array.getElem?_toList] at e1
      exact Option.some.inj ((Array.getElem?_eq_getElem hi').symm.trans e1)
    obtain ⟨b, us, m, hb, hm, hu⟩ := hi i hi'
    rw [e3] at hb
    subst hb
    have e4 : d = PyData.list ((rowsAt ns i).map PyData.str) := by
      rw [List.map_map, List.getElem?_map, List.getElem?_range (by omega)] at e2
      exact (Option.some.inj e2).symm
    subst e4
    obtain ⟨bs, q⟩ := reads_strs (h := h) us
    rw [← hu]
    exact ⟨_, .list (hr _ hm) rfl rfl q⟩
  exact ⟨_, .list ha rfl rfl q⟩

theorem hands_lay (ns : List Int) (K : Nat) : SeqAt.shaped (handsD ns K) = true := by
  have h := lay_rows ((List.range K).map fun t => rowsAt ns t) fun r hr x hx => by
    obtain ⟨t, _, rfl⟩ := List.mem_map.mp hr
    obtain ⟨d, _, rfl⟩ := List.mem_map.mp hx
    exact row_strOk _
  unfold SeqAt.shaped handsD
  simp only [PyData.canLay0, PyData.depth, h.1, Bool.true_and]
  exact decide_eq_true (by omega)

section
variable {prog : Program} {w : World} {A : Around} {E : Value → Shared → Prop} {s : Shared}
theorem ne_hands {a b : Addr} {i1 i2 : Array Value} {n1 n2 : Nat} {r1 r2 : List (Addr × Obj)} {ns : List Int} {K : Nat} {Q : Value → Shared → Prop} (ha : s.heap.get? a = some (listOf i1 n1)) (hb : s.heap.get? b = some (listOf i2 n2)) (hr1 : ∀ p ∈ r1, s.heap.get? p.1 = some p.2) (hr2 : ∀ p ∈ r2, s.heap.get? p.1 = some p.2)
    (h1 : HandsIn r1 i1 ns) (h2 : HandsIn r2 i2 ns) (hK1 : i1.size = K) (hK2 : i2.size = K) (hu : A.units + 64 < cLine) (h : Q (.bool false) s) : wpAny (model prog w) A (compareOp .NotEq (.ref a) (.ref b)) Q E s := by
  obtain ⟨as, ra⟩ := reads_hands ha hr1 h1 hK1
  obtain ⟨bs, rb⟩ := reads_hands hb hr2 h2 hK2
  refine ne_dataH ra rb (hands_lay _ _) (hands_lay _ _) hu ?_
  have : PyData.eqv (handsD ns K) (handsD ns K) = true := SeqAt.eqv_refl _ (SeqAt.canLay_of_shaped (hands_lay _ _))
  rw [this]
  exact h
end
end Mine
end

section
open PySem PySem.W PySem.Calls PyProof.Rows
open Mine
local macro_rules | `(tactic| walk_at "subscriptTail Name Constant ref int") => `(tactic| refine Stop.intro ?_)
local macro_rules | `(tactic| walk_at "subscriptTail Name Name ref int") => `(tactic| refine Stop.intro ?_)
local macro_rules | `(tactic| walk_at "subscriptTail Name BinOp ref int") => `(tactic| refine Stop.intro ?_)
local macro_rules | `(tactic| walk_at "binaryOp Mult int int") => `(tactic| refine Stop.intro ?_)

section
open PySem PySem.W PySem.Calls PyProof.Rows
set_option Elab.async false
namespace Mine
set_option maxRecDepth 100000
set_option maxHeartbeats 8000000

theorem fillW3 (h : PySem.Challenge.rw_ta0035_01.about = [] → hd.heap_39 = hd.heap_39) : (PySem.Challenge.rw_ta0035_01.about = [] → hd.heap_39 = hd.heap_39) := by
  k_fill
  exact h

theorem ints_get {vs : List Value} {ns : List Int} (h : IntsAre vs ns) {i : Nat} {d : Int} (e : ns[i]? = some d) : ∃ t, vs[i]? = some (.int d t) := by
  induction h generalizing i with
  | nil => cases e
  | cons n t hr ih =>
    cases i with
    | zero => cases e; exact ⟨t, rfl⟩
    | succ i => obtain ⟨t, h⟩ := ih (i := i) (by simpa using e); exact ⟨t, by simpa using h⟩

section
variable {w : World} {A : Around} {lo : List Str} {mean : ExcName → Option Value} {mg mb : Str → Option Value} {g : Heap}

set_option pp.deepTerms false in
theorem seg_c {gens : Array GenState} {drawn : Drawn} {os : OsState} {tk : Nat} {hp : Heap} {L fa : Addr} {cd : Value} {m : Str → Option Value} {Q : Flow → Shared → Prop} {o0 o1 o2 o3 o4 o5 o6 o7 o8 o9 q78 q71 : Obj} {tl : List (Addr × Obj)} {v0 v1 v2 v3 v9 : Option Value}
   (K : LawK w lo mean mg mb g A L) (X : Led g L hp m ([(L + 1 + 1 + 1 + 1 + 1 + 1 + 1 + 1 + 1 + 1, o0), (L + 1 + 1 + 1 + 1 + 1 + 1 + 1 + 1 + 1, o1), (L + 1 + 1 + 1 + 1 + 1 + 1 + 1 + 1, o2), (L + 1 + 1 + 1 + 1 + 1 + 1 + 1, o3), (L + 1 + 1 + 1 + 1 + 1 + 1, o4), (L + 1 + 1 + 1 + 1 + 1, o5), (L + 1 + 1 + 1 + 1, o6), (L + 1 + 1 + 1, o7), (L + 1 + 1, o8), (L + 1, o9)] : List (Addr × Obj)) q78 q71 tl)
   (e0 : o0.data = .cell v0) (e1 : o1.data = .cell v1) (e2 : o2.data = .cell v2) (e3 : o3.data = .cell v3) (e4 : o4.data = .cell none) (e5 : o5.data = .cell none) (e6 : o6.data = .cell none) (e7 : o7.data = .cell none) (e9 : o9.data = .cell v9)
   {D : Addr} {us : List Value} {ep : Nat} (e8 : o8.data = .cell (some (.ref D))) (hD : (D, listOf us.toArray ep) ∈ tl) (hus : IntsAre us fibs)
   {a b c : Int} {ta tb tc te : Tok} {e : Str} (ha : m (Str.ofString "a") = some (.int a ta)) (hb : m (Str.ofString "b") = some (.int b tb)) (hc : m (Str.ofString "c") = some (.int c tc)) (he : m (Str.ofString "end") = some (.str e te)) (hend : IsEnd e.cps.toList)
   {pa pb pc : List Int} {pb0 pc0 : Int} (hpa : plc fibs 64 a = some pa) (hpb : plc fibs 64 b = some pb) (hpc : plc fibs 64 c = some pc) (hpb0 : pb[0]? = some pb0) (hpc0 : pc[0]? = some pc0) (hk : 0 ≤ pb0 + pc0 ∧ pb0 + pc0 ≤ 40)
   (hpan : pa ≠ []) (hpal : pa.length ≤ 64) (hpab : ∀ n ∈ pa, 1 ≤ n ∧ n ≤ 40)
   (next : ∀ h' tk' tl' o4 o5 o6 o7 pA uA nA pB uB nB pC uC nC hH iH nH rH, Led g L h' m ([(L + 1 + 1 + 1 + 1 + 1 + 1 + 1 + 1 + 1 + 1, o0), (L + 1 + 1 + 1 + 1 + 1 + 1 + 1 + 1 + 1, o1), (L + 1 + 1 + 1 + 1 + 1 + 1 + 1 + 1, o2), (L + 1 + 1 + 1 + 1 + 1 + 1 + 1, o3), (L + 1 + 1 + 1 + 1 + 1 + 1, o4), (L + 1 + 1 + 1 + 1 + 1, o5), (L + 1 + 1 + 1 + 1, o6), (L + 1 + 1 + 1, o7), (L + 1 + 1, o8), (L + 1, o9)] : List (Addr × Obj)) q78 q71 tl' → o4.data = .cell (some (.ref hH)) → o5.data = .cell (some (.ref pC)) → o6.data = .cell (some (.ref pB)) → o7.data = .cell (some (.ref pA)) →
     (pA, listOf uA.toArray nA) ∈ tl' → IntsAre uA pa → (pB, listOf uB.toArray nB) ∈ tl' → IntsAre uB pb → (pC, listOf uC.toArray nC) ∈ tl' → IntsAre uC pc → (hH, listOf iH nH) ∈ tl' → (∀ p ∈ rH, p ∈ tl') → iH.size = (pb0 + pc0).toNat + 1 → HandsIn rH iH pa → (D, listOf us.toArray ep) ∈ tl' →
     wpAny (model prog0 w) A (execs (lawBody.drop 13) (envOfC (Str.ofString "law") lawScope L fa cd)) Q (fun _ _ => False) ⟨h', gens, drawn, tk', os⟩) :
   wpAny (model prog0 w) A (execs (lawBody.drop 8) (envOfC (Str.ofString "law") lawScope L fa cd)) Q (fun _ _ => False) ⟨hp, gens, drawn, tk, os⟩ := by
  conv in execs _ _ =>
    congr
    · whnf
    · arg 2
      whnf
  dsimp only
  have KX := K.B.G.X
  have T := K.B.G.T
  have hL := K.hL
  have hA := K.hA
  have F := X.F
  have N := X.N
  have off := X.off
  dsimp only [List.cons_append, List.nil_append] at N
  w_top on
  k_steps
  refine Stop.out ?_
  refine places_ok (K.B.G.keeps X.F.keep) (hA.le (by decide)) (X.isList hD) hus (by decide) (f := 64) (by decide) hpa ?_
  rintro pA uA nA s' hpk1 hn1 hp1 hiA
  refine gen_goal fun GX hGX => ?_
  obtain ⟨h1, tk1, rfl, hk1⟩ := hpk1
  refine hGX ?_
  clear hGX
  have X1 := X.keeps hk1 (new := [(pA, listOf uA.toArray nA)]) (fun p hp' => by rcases List.mem_cons.mp hp' with rfl | hp'; exact ⟨hp1, hn1⟩; cases hp')
  clear F N off X
  have F := X1.F
  have N := X1.N
  have off := X1.off
  dsimp only [List.cons_append, List.nil_append] at N off
  k_steps
  (with_reducible rename Fr _ _ _ _ => F2); (with_reducible rename News _ _ _ _ => N2)
  clear e7
  rename Obj.data _ = Data.cell (some (Value.ref pA)) => e7
  obtain ⟨o7', q⟩ := name_data e7
  subst q
  have X2 : Led g L _ m ([(L + 1 + 1 + 1 + 1 + 1 + 1 + 1 + 1 + 1 + 1, o0), (L + 1 + 1 + 1 + 1 + 1 + 1 + 1 + 1 + 1, o1), (L + 1 + 1 + 1 + 1 + 1 + 1 + 1 + 1, o2), (L + 1 + 1 + 1 + 1 + 1 + 1 + 1, o3), (L + 1 + 1 + 1 + 1 + 1 + 1, o4), (L + 1 + 1 + 1 + 1 + 1, o5), (L + 1 + 1 + 1 + 1, o6), (L + 1 + 1 + 1, o7'), (L + 1 + 1, o8), (L + 1, o9)] : List (Addr × Obj)) q78 q71 ((pA, listOf uA.toArray nA) :: tl) := ⟨F2, N2, off, X1.t78, X1.t71, c10_cl e0 e1 e2 e3 e4 e5 e6 e7 e8 e9, c10_has⟩
  clear F2 N2 X1 off
  refine Stop.out ?_
  refine places_ok (K.B.G.keeps X2.F.keep) (hA.le (by decide)) (X2.isList (.tail _ hD)) hus (by decide) (f := 64) (by decide) hpb ?_
  rintro pB uB nB s' hpk2 hn2 hp2 hiB
  refine gen_goal fun GX hGX => ?_
  obtain ⟨h2, tk2, rfl, hk2⟩ := hpk2
  refine hGX ?_
  clear hGX
  have X3 := X2.keeps hk2 (new := [(pB, listOf uB.toArray nB)]) (fun p hp' => by rcases List.mem_cons.mp hp' with rfl | hp'; exact ⟨hp2, hn2⟩; cases hp')
  clear X2 hk2 hn2 hp2
  have F := X3.F
  have N := X3.N
  have off := X3.off
  dsimp only [List.cons_append, List.nil_append] at N off
  k_steps
  (with_reducible rename Fr _ _ _ _ => F2); (with_reducible rename News _ _ _ _ => N2)
  clear e6
  rename Obj.data _ = Data.cell (some (Value.ref pB)) => e6
  obtain ⟨o6', q⟩ := name_data e6
  subst q
  have X4 : Led g L _ m ([(L + 1 + 1 + 1 + 1 + 1 + 1 + 1 + 1 + 1 + 1, o0), (L + 1 + 1 + 1 + 1 + 1 + 1 + 1 + 1 + 1, o1), (L + 1 + 1 + 1 + 1 + 1 + 1 + 1 + 1, o2), (L + 1 + 1 + 1 + 1 + 1 + 1 + 1, o3), (L + 1 + 1 + 1 + 1 + 1 + 1, o4), (L + 1 + 1 + 1 + 1 + 1, o5), (L + 1 + 1 + 1 + 1, o6'), (L + 1 + 1 + 1, o7'), (L + 1 + 1, o8), (L + 1, o9)] : List (Addr × Obj)) q78 q71 ((pB, listOf uB.toArray nB) :: (pA, listOf uA.toArray nA) :: tl) := ⟨F2, N2, off, X3.t78, X3.t71, c10_cl e0 e1 e2 e3 e4 e5 e6 e7 e8 e9, c10_has⟩
  clear F2 N2 X3 off
  refine Stop.out ?_
  refine places_ok (K.B.G.keeps X4.F.keep) (hA.le (by decide)) (X4.isList (.tail _ (.tail _ hD))) hus (by decide) (f := 64) (by decide) hpc ?_
  rintro pC uC nC s' hpk3 hn3 hp3 hiC
  refine gen_goal fun GX hGX => ?_
  obtain ⟨h3, tk3, rfl, hk3⟩ := hpk3
  refine hGX ?_
  clear hGX
  have X5 := X4.keeps hk3 (new := [(pC, listOf uC.toArray nC)]) (fun p hp' => by rcases List.mem_cons.mp hp' with rfl | hp'; exact ⟨hp3, hn3⟩; cases hp')
  clear X4 hk3 hn3 hp3
  have F := X5.F
  have N := X5.N
  have off := X5.off
  dsimp only [List.cons_append, List.nil_append] at N off
  k_steps
  (with_reducible rename Fr _ _ _ _ => F2); (with_reducible rename News _ _ _ _ => N2)
  clear e5
  rename Obj.data _ = Data.cell (some (Value.ref pC)) => e5
  obtain ⟨o5', q⟩ := name_data e5
  subst q
  have X6 : Led g L _ m ([(L + 1 + 1 + 1 + 1 + 1 + 1 + 1 + 1 + 1 + 1, o0), (L + 1 + 1 + 1 + 1 + 1 + 1 + 1 + 1 + 1, o1), (L + 1 + 1 + 1 + 1 + 1 + 1 + 1 + 1, o2), (L + 1 + 1 + 1 + 1 + 1 + 1 + 1, o3), (L + 1 + 1 + 1 + 1 + 1 + 1, o4), (L + 1 + 1 + 1 + 1 + 1, o5'), (L + 1 + 1 + 1 + 1, o6'), (L + 1 + 1 + 1, o7'), (L + 1 + 1, o8), (L + 1, o9)] : List (Addr × Obj)) q78 q71 ((pC, listOf uC.toArray nC) :: (pB, listOf uB.toArray nB) :: (pA, listOf uA.toArray nA) :: tl) := ⟨F2, N2, off, X5.t78, X5.t71, c10_cl e0 e1 e2 e3 e4 e5 e6 e7 e8 e9, c10_has⟩
  clear X5 off
  refine Stop.out ?_
  obtain ⟨tB, hxB⟩ := ints_get hiB hpb0
  obtain ⟨tC, hxC⟩ := ints_get hiC hpc0
  refine sub_at (X6.isList (.tail _ (.head _))) (by decide) (by decide) (x := .int pb0 tB) (by simpa using hxB) ?_
  k_steps
  refine Stop.out ?_
  refine sub_at (X6.isList (.head _)) (by decide) (by decide) (x := .int pc0 tC) (by simpa using hxC) ?_
  k_steps
  refine Stop.out ?_
  refine hands_ok (K.B.G.keeps X6.F.keep) (hA.le (by decide)) (X6.isList (.tail _ (.tail _ (.head _)))) hiA hpal hpan hend hk.1 hk.2 hpab ?_
  rintro hH iH nH rH s' hpk4 hmH hsH hH1
  refine gen_goal fun GX hGX => ?_
  obtain ⟨h4, tk4, rfl, hk4⟩ := hpk4
  refine hGX ?_
  clear hGX
  have X7 := X6.keeps hk4 hmH
  clear X6 hk4 hmH F2 N2
  have F := X7.F
  have N := X7.N
  have off := X7.off
  dsimp only [List.cons_append, List.nil_append] at N off
  k_steps
  (with_reducible rename Fr _ _ _ _ => F2); (with_reducible rename News _ _ _ _ => N2)
  clear e4
  rename Obj.data _ = Data.cell (some (Value.ref hH)) => e4
  obtain ⟨o4', q⟩ := name_data e4
  subst q
  have X8 : Led g L _ m ([(L + 1 + 1 + 1 + 1 + 1 + 1 + 1 + 1 + 1 + 1, o0), (L + 1 + 1 + 1 + 1 + 1 + 1 + 1 + 1 + 1, o1), (L + 1 + 1 + 1 + 1 + 1 + 1 + 1 + 1, o2), (L + 1 + 1 + 1 + 1 + 1 + 1 + 1, o3), (L + 1 + 1 + 1 + 1 + 1 + 1, o4'), (L + 1 + 1 + 1 + 1 + 1, o5'), (L + 1 + 1 + 1 + 1, o6'), (L + 1 + 1 + 1, o7'), (L + 1 + 1, o8), (L + 1, o9)] : List (Addr × Obj)) q78 q71 ((hH, listOf iH nH) :: (rH ++ (pC, listOf uC.toArray nC) :: (pB, listOf uB.toArray nB) :: (pA, listOf uA.toArray nA) :: tl)) := ⟨F2, N2, off, X7.t78, X7.t71, c10_cl e0 e1 e2 e3 e4 e5 e6 e7 e8 e9, c10_has⟩
  clear X7 off
  refine Stop.out ?_
  have iC : (pC, listOf uC.toArray nC) ∈ (hH, listOf iH nH) :: (rH ++ (pC, listOf uC.toArray nC) :: (pB, listOf uB.toArray nB) :: (pA, listOf uA.toArray nA) :: tl) := .tail _ (List.mem_append_right _ (.head _))
  have iB : (pB, listOf uB.toArray nB) ∈ (hH, listOf iH nH) :: (rH ++ (pC, listOf uC.toArray nC) :: (pB, listOf uB.toArray nB) :: (pA, listOf uA.toArray nA) :: tl) := .tail _ (List.mem_append_right _ (.tail _ (.head _)))
  have iA : (pA, listOf uA.toArray nA) ∈ (hH, listOf iH nH) :: (rH ++ (pC, listOf uC.toArray nC) :: (pB, listOf uB.toArray nB) :: (pA, listOf uA.toArray nA) :: tl) := .tail _ (List.mem_append_right _ (.tail _ (.tail _ (.head _))))
  refine sub_at (X8.isList iB) (by decide) (by decide) (x := .int pb0 tB) (by simpa using hxB) ?_
  k_steps
  refine Stop.out ?_
  refine sub_at (X8.isList iC) (by decide) (by decide) (x := .int pc0 tC) (by simpa using hxC) ?_
  k_steps
  refine Stop.out ?_
  refine rows_ok (K.B.G.keeps X8.F.keep) (hA.le (by decide)) (X8.isList iA) hiA hpal hk.1 hk.2 hpab ?_
  rintro hR iR nR rR s' hpk5 hmR hsR hR1
  refine gen_goal fun GX hGX => ?_
  obtain ⟨h5, tk5, rfl, hk5⟩ := hpk5
  refine hGX ?_
  clear hGX
  have X9 := X8.keeps hk5 hmR
  clear X8 hk5 F2 N2
  dsimp only at hmR X9
  have F := X9.F
  have N := X9.N
  have off := X9.off
  dsimp only [List.cons_append, List.nil_append] at N off
  k_steps
  refine Stop.out ?_
  refine ne_hands (K := (pb0 + pc0).toNat + 1) (X9.get (p := (hH, listOf iH nH)) (List.mem_append_right _ (.head _))) (hmR _ (.head _)).1 (fun p hp' => X9.get (List.mem_append_right _ (.tail _ (List.mem_append_left _ hp')))) (fun p hp' => (hmR p (.tail _ hp')).1) hH1 hR1 hsH hsR (by have := hA.un; show _ < 9900; omega) ?_
  k_steps
  refine Stop.out ?_
  exact next _ _ _ o4' o5' o6' o7' pA uA nA pB uB nB pC uC nC hH iH nH rH X9 e4 e5 e6 e7 (List.mem_append_right _ iA) hiA (List.mem_append_right _ iB) hiB (List.mem_append_right _ iC) hiC (List.mem_append_right _ (.head _)) (fun p hp' => List.mem_append_right _ (.tail _ (List.mem_append_left _ hp'))) hsH hH1
    (List.mem_append_right _ (.tail _ (List.mem_append_right _ (.tail _ (.tail _ (.tail _ hD))))))
end
end Mine
end

section
open PySem PySem.W PySem.Calls PyProof.Rows
set_option Elab.async false
namespace Mine
set_option maxRecDepth 100000
set_option maxHeartbeats 8000000

theorem fillW4 (h : PySem.Challenge.rw_ta0035_01.about = [] → hd.heap_39 = hd.heap_39) : (PySem.Challenge.rw_ta0035_01.about = [] → hd.heap_39 = hd.heap_39) := by
  k_fill
  exact h

theorem Led.sink {g : Heap} {L : Addr} {h h' : Heap} {m m' : Str → Option Value} {cs : List (Addr × Obj)} {q78 q71 : Obj} {tl : List (Addr × Obj)} {D : Addr} {o : Obj} (x : Led g L h m cs q78 q71 tl) (F : Fr g L h' m')
    (N : News g L h' ((D, o) :: (cs ++ (78, q78) :: (71, q71) :: tl))) (hne : ∀ p ∈ cs ++ (78, q78) :: (71, q71) :: tl, p.1 ≠ D) : Led g L h' m' cs q78 q71 ((D, o) :: tl) := by
  refine ⟨F, fun p hp => N p ?_, ?_, x.t78.more fun p hp => .tail _ hp, x.t71.more fun p hp => .tail _ hp, x.cl, x.ca⟩
  · rcases List.mem_append.mp hp with hp | hp
    · exact .tail _ (List.mem_append_left _ hp)
    · rcases List.mem_cons.mp hp with rfl | hp
      · exact .tail _ (List.mem_append_right _ (.head _))
      · rcases List.mem_cons.mp hp with rfl | hp
        · exact .tail _ (List.mem_append_right _ (.tail _ (.head _)))
        · rcases List.mem_cons.mp hp with rfl | hp
          · exact .head _
          · exact .tail _ (List.mem_append_right _ (.tail _ (.tail _ hp)))
  · intro p hp
    rcases List.mem_cons.mp hp with rfl | hp
    · refine ⟨fun q => hne (71, q71) (List.mem_append_right _ (.tail _ (.head _))) q.symm, fun q => hne (78, q78) (List.mem_append_right _ (.head _)) q.symm, ?_⟩
      rcases Nat.lt_or_ge L D with h1 | h1
      · rcases Nat.lt_or_ge (L + 10) D with h2 | h2
        · exact .inr h2
        · obtain ⟨o, ho⟩ := x.ca D ⟨h1, h2⟩
          exact absurd rfl (hne _ (List.mem_append_left _ ho))
      · exact .inl h1
    · exact x.off p hp

/-- the dots of the rows heard -/
noncomputable def heardL (pa pb : List Int) : List Int := (pb.map fun j => pa.map fun d => d + j).flatten

theorem row_len {d : Int} (h : 0 ≤ d) : ((row d).length : Int) = d := by
  show ((rowL d.toNat).toArray.size : Int) = d
  rw [List.size_toArray, rowL, List.length_replicate]
  omega

/-- the text's place in a hand -/
theorem hand_at {l : List (Addr × Obj)} {items : Array Value} {ns : List Int} (h : HandsIn l items ns) {j : Int} (h0 : 0 ≤ j) (h1 : j < items.size) : ∃ b us n, items[j.toNat]? = some (.ref b) ∧ (b, listOf (strValues us).toArray n) ∈ l ∧ us.map (·.1) = rowsAt ns j.toNat := by
  have hj : j.toNat < items.size := by omega
  obtain ⟨b, us, n, e, m, r⟩ := h j.toNat hj
  exact ⟨b, us, n, by rw [Array.getElem?_eq_getElem hj, e], m, r⟩

theorem str_at {us : List (Str × Tok)} {ns : List Int} {t : Nat} (hu : us.map (·.1) = rowsAt ns t) (h0 : ∀ n ∈ ns, 0 ≤ n ∧ n ≤ 40) (ht : t ≤ 40) {i : Nat} {v : Value} {n : Int} (hv : (strValues us).toArray[i]? = some v) (hn : (ns.map fun d => d + (t : Int))[i]? = some n) : ∃ x tx, v = .str x tx ∧ (x.length : Int) = n ∧ x.length ≤ 80 := by
  rw [List.getElem?_toArray] at hv
  obtain ⟨p, hp, rfl⟩ := Option.map_eq_some_iff.mp ((List.getElem?_map ..).symm.trans hv)
  obtain ⟨d, hd, rfl⟩ := Option.map_eq_some_iff.mp ((List.getElem?_map ..).symm.trans hn)
  have e : (us.map (·.1))[i]? = some p.1 := by rw [List.getElem?_map, hp]; rfl
  rw [hu, rowsAt, List.getElem?_map, hd] at e
  refine ⟨p.1, p.2, rfl, ?_⟩
  rw [← Option.some.inj e]
  have := h0 d (List.mem_of_getElem? hd)
  have := row_len (d := d + (t : Int)) (by omega)
  refine ⟨this, ?_⟩
  show (row (d + (t : Int))).length ≤ 80
  omega

section
variable {w : World} {A : Around} {lo : List Str} {mean : ExcName → Option Value} {mg mb : Str → Option Value} {g : Heap}
local macro_rules | `(tactic| walk_at "execs cons Assign cons") => `(tactic| ((with_reducible show wpAny _ _ (execs (Stmt.Assign [Expr.Name (Str.ofString "one") _] _ _ :: _) _) _ _ _); refine Stop.intro ?_))

set_option pp.deepTerms false in
theorem seg_d {gens : Array GenState} {drawn : Drawn} {os : OsState} {tk : Nat} {hp : Heap} {L fa : Addr} {cd : Value} {m : Str → Option Value} {Q : Flow → Shared → Prop} {o0 o1 o2 o3 o4 o5 o6 o7 o8 o9 q78 q71 : Obj} {tl : List (Addr × Obj)} {v0 v1 v2 v5 v7 v8 v9 : Option Value}
   (K : LawK w lo mean mg mb g A L) (X : Led g L hp m ([(L + 1 + 1 + 1 + 1 + 1 + 1 + 1 + 1 + 1 + 1, o0), (L + 1 + 1 + 1 + 1 + 1 + 1 + 1 + 1 + 1, o1), (L + 1 + 1 + 1 + 1 + 1 + 1 + 1 + 1, o2), (L + 1 + 1 + 1 + 1 + 1 + 1 + 1, o3), (L + 1 + 1 + 1 + 1 + 1 + 1, o4), (L + 1 + 1 + 1 + 1 + 1, o5), (L + 1 + 1 + 1 + 1, o6), (L + 1 + 1 + 1, o7), (L + 1 + 1, o8), (L + 1, o9)] : List (Addr × Obj)) q78 q71 tl) {pB hH : Addr} {uB : List Value} {nB nH : Nat} {iH : Array Value} {rH : List (Addr × Obj)}
   (e0 : o0.data = .cell v0) (e1 : o1.data = .cell v1) (e2 : o2.data = .cell v2) (e3 : o3.data = .cell none) (e4 : o4.data = .cell (some (.ref hH))) (e5 : o5.data = .cell v5) (e6 : o6.data = .cell (some (.ref pB))) (e7 : o7.data = .cell v7) (e8 : o8.data = .cell v8) (e9 : o9.data = .cell v9)
   {pa pb : List Int} {k : Int} (hB : (pB, listOf uB.toArray nB) ∈ tl) (hiB : IntsAre uB pb) (hHm : (hH, listOf iH nH) ∈ tl) (hrH : ∀ p ∈ rH, p ∈ tl) (hsH : iH.size = k.toNat + 1) (hHI : HandsIn rH iH pa)
   (hpa0 : ∀ n ∈ pa, 0 ≤ n ∧ n ≤ 40) (hk : k ≤ 40) (hpb0 : ∀ j ∈ pb, 0 ≤ j ∧ j ≤ k) (hlen : (heardL pa pb).length ≤ 4096)
   (next : ∀ h' tk' o3 hE yE nE, Led g L h' m ([(L + 1 + 1 + 1 + 1 + 1 + 1 + 1 + 1 + 1 + 1, o0), (L + 1 + 1 + 1 + 1 + 1 + 1 + 1 + 1 + 1, o1), (L + 1 + 1 + 1 + 1 + 1 + 1 + 1 + 1, o2), (L + 1 + 1 + 1 + 1 + 1 + 1 + 1, o3), (L + 1 + 1 + 1 + 1 + 1 + 1, o4), (L + 1 + 1 + 1 + 1 + 1, o5), (L + 1 + 1 + 1 + 1, o6), (L + 1 + 1 + 1, o7), (L + 1 + 1, o8), (L + 1, o9)] : List (Addr × Obj)) q78 q71 ((hE, listOf (List.toArray yE) nE) :: tl) → o3.data = .cell (some (.ref hE)) → IntsAre yE (heardL pa pb) →
     wpAny (model prog0 w) A (execs (lawBody.drop 14) (envOfC (Str.ofString "law") lawScope L fa cd)) Q (fun _ _ => False) ⟨h', gens, drawn, tk', os⟩) :
   wpAny (model prog0 w) A (execs (lawBody.drop 13) (envOfC (Str.ofString "law") lawScope L fa cd)) Q (fun _ _ => False) ⟨hp, gens, drawn, tk, os⟩ := by
  conv in execs _ _ =>
    congr
    · whnf
    · arg 2
      whnf
  dsimp only
  have KX := K.B.G.X
  have T := K.B.G.T
  have hL := K.hL
  have hA := K.hA
  have F := X.F
  have N := X.N
  have off := X.off
  dsimp only [List.cons_append, List.nil_append] at N
  have G1 : Gd w lo mean mg mb hp := K.B.G.keeps F.keep
  have c6 : hp.IsCell (L + 1 + 1 + 1 + 1) (some (.ref pB)) := cell_of N e6 (by k_mem)
  have c4 : hp.IsCell (L + 1 + 1 + 1 + 1 + 1 + 1) (some (.ref hH)) := cell_of N e4 (by k_mem)
  w_top on
  k_steps
  refine Stop.out ?_
  refine wpAny_execs_cons ?_
  k_steps
  refine Stop.out ?_
  refine lc_multi (ns := heardL pa pb) F N ⟨_, X.isList hB⟩ ⟨_, _, rfl⟩ rfl (by decide) (by decide) rfl rfl (by omega) ?_ ?_ ?_ (fun _ => rfl) rfl rfl
  · k_steps
  · intro C D
    refine lvl_mid (nss := pb.map fun j => pa.map fun d => d + j) hA.hh rfl rfl rfl rfl rfl (X.isList hB) (by rw [List.size_toArray, List.length_map]; exact IntsAre.length hiB) (fun _ _ _ => trivial) (fun _ => rfl) ?_
    intro i v ns hv hns
    obtain ⟨j, hj, rfl⟩ := Option.map_eq_some_iff.mp ((List.getElem?_map ..).symm.trans hns)
    obtain ⟨tj, hvj⟩ := ints_get hiB hj
    have : v = .int j tj := by
      rw [List.getElem?_toArray, hvj] at hv
      exact (Option.some.inj hv).symm
    subst this
    have hj1 := hpb0 j (List.mem_of_getElem? hj)
    obtain ⟨b2, us2, n2, h1, h2, h3⟩ := hand_at hHI hj1.1 (by rw [hsH]; omega)
    refine ⟨b2, _, X.isList (hrH _ h2), ?_, ?_⟩
    · intro h m2 tk2 F2 _ hm2
      have KX2 := G1.X
      k_steps
      refine Stop.out ?_
      refine sub_at (IsList.keepsAll (X.isList hHm) F2.keep) hj1.1 (by omega) h1 ?_
      exact ⟨rfl, _, rfl⟩
    · refine lvl_last hA.hh rfl rfl rfl rfl rfl (X.isList (hrH _ h2)) ?_ ?_ ?_
      · have := congrArg List.length h3
        rw [List.length_map, rowsAt, List.length_map] at this
        rw [List.size_toArray, strValues, List.length_map, List.length_map, this]
      · intro m3 v3 h
        refine ⟨trivial, ?_⟩
        rw [← h.2]
        rfl
      · intro i3 v3 n3 s3 m3 hv3 hn3 F3 hm3 hmx
        have e9 : (fun d => d + j : Int → Int) = fun d => d + (j.toNat : Int) := by funext d; omega
        rw [e9] at hn3
        obtain ⟨x, tx, rfl, rfl, hxl⟩ := str_at h3 hpa0 (by omega) hv3 hn3
        obtain ⟨h3, gens3, drawn3, toks3, os3⟩ := s3
        dsimp only at *
        have N3 : News hp C h3 [] := News.nil
        k_steps
        exact ⟨_, _, rfl, fun _ _ e => e⟩
  · intro D h' tk' ys n F N hne hi
    obtain ⟨ys⟩ := ys
    have X1 := X.sink F N hne
    clear F N hne
    have F := X1.F
    have N := X1.N
    have off := X1.off
    dsimp only [List.cons_append, List.nil_append] at N off
    k_steps
    (with_reducible rename Fr _ _ _ _ => F2); (with_reducible rename News _ _ _ _ => N2)
    clear e3
    rename Obj.data _ = Data.cell (some (Value.ref D)) => e3
    obtain ⟨o3', q⟩ := name_data e3
    subst q
    refine Stop.out ?_
    exact next _ _ o3' D _ _ ⟨F2, N2, off, X1.t78, X1.t71, c10_cl e0 e1 e2 e3 e4 e5 e6 e7 e8 e9, c10_has⟩ e3 hi
end
end Mine
end

section
open PySem PySem.W PySem.Calls PyProof.Rows
set_option Elab.async false
namespace Mine
set_option maxRecDepth 100000
set_option maxHeartbeats 8000000

theorem fillW5 (h : PySem.Challenge.rw_ta0035_01.about = [] → hd.heap_39 = hd.heap_39) : (PySem.Challenge.rw_ta0035_01.about = [] → hd.heap_39 = hd.heap_39) := by
  k_fill
  exact h

theorem row_ints {n : Nat} {f : Nat → Int} {ys : Array Value} (h : Row (fun i y => ∃ t, y = .int (f i) t) n ys) : IntsAre ys.toList ((List.range n).map f) := by
  obtain ⟨ys⟩ := ys
  have key : ∀ (ys : List Value) (f : Nat → Int), (∀ (i : Nat) y, ys[i]? = some y → ∃ t, y = .int (f i) t) → IntsAre ys ((List.range ys.length).map f) := by
    intro ys
    induction ys with
    | nil => intro f _; exact .nil
    | cons y r ih =>
      intro f h
      obtain ⟨t, rfl⟩ := h 0 _ rfl
      have := ih (fun i => f (i + 1)) fun i y e => h (i + 1) y (by simpa using e)
      rw [List.length_cons, List.range_succ_eq_map, List.map_cons, List.map_map]
      exact .cons _ _ this
  have e : ys.length = n := h.1
  rw [← e]
  exact key ys f fun i y hy => h.2 i y (by simpa using hy)

/-- 1 at each place -/
noncomputable def bitsL (ps : List Int) (n : Nat) : List Int := (List.range n).map fun (i : Nat) => if ((i : Int) ∈ ps) then 1 else 0

theorem bitsL_small {ps : List Int} {n : Nat} {wd : Int} (hw : 1 ≤ wd) : ∀ d ∈ bitsL ps n, 0 ≤ d ∧ d < 2 ^ wd.toNat := by
  intro d hd
  obtain ⟨i, _, rfl⟩ := List.mem_map.mp hd
  have h2 : (2 : Int) ^ 1 ≤ 2 ^ wd.toNat := by
    have h3 : 2 ^ 1 ≤ 2 ^ wd.toNat := Nat.pow_le_pow_right (by decide) (by omega)
    have e : ∀ k : Nat, (2 : Int) ^ k = ((2 ^ k : Nat) : Int) := fun k => by push_cast; rfl
    rw [e, e]
    exact Int.ofNat_le.mpr h3
  have h3 : (2 : Int) ^ 1 = 2 := rfl
  split <;> omega

/-- the end of a comprehension's element -/
noncomputable def EltEnd (P : Value → Prop) (s : Shared) (y : Value) (s' : Shared) : Prop := P y ∧ Keeps s s'

theorem mem_any {l : List Int} {x : Int} : (l.any fun y => y == x) = decide (x ∈ l) := by
  rw [Bool.eq_iff_iff, List.any_eq_true, decide_eq_true_iff]
  exact ⟨fun ⟨y, h1, h2⟩ => (beq_iff_eq.mp h2) ▸ h1, fun h => ⟨x, h, beq_self_eq_true _⟩⟩

theorem Led.d2i {g : Heap} {L : Addr} {h h' : Heap} {m : Str → Option Value} {cs : List (Addr × Obj)} {q78 q71 : Obj} {tl : List (Addr × Obj)} (x : Led g L h m cs q78 q71 tl) (hL : @LT.lt Nat _ 78 L) (n71 : g.get? 71 = none) (n78 : g.get? 78 = none)
    (hk : ∀ b o, b ∉ [78] → h.get? b = some o → h'.get? b = some o) (h78 : Mine.T78 h') : ∃ q78' q71' tl2, Led g L h' m cs q78' q71' (tl2 ++ tl) := by
  have e71 := x.N (71, q71) (List.mem_append_right _ (.tail _ (.head _)))
  have h71 : Mine.T71 h' := x.T71.move (Q := 78) x.T78.nocode (fun o e => hk _ _ (show (71 : Nat) ∉ [78] by decide) e) fun b o _ h2 e => hk _ _ (fun q => h2 (by simpa using q)) e
  obtain ⟨a, b, c, X⟩ := x.but hL n71 n78 (fun b o hb e => hk b o (fun q => hb (by simp only [List.mem_cons, List.not_mem_nil, or_false] at q ⊢; exact .inr q)) e) h71 h78 (new := []) (fun p hp => by cases hp)
  exact ⟨a, b, c, X⟩

theorem Led.i2d {g : Heap} {L : Addr} {h h' : Heap} {m : Str → Option Value} {cs : List (Addr × Obj)} {q78 q71 : Obj} {tl : List (Addr × Obj)} (x : Led g L h m cs q78 q71 tl) (hL : @LT.lt Nat _ 78 L) (n71 : g.get? 71 = none) (n78 : g.get? 78 = none)
    (hk : ∀ b o, b ∉ [71] → h.get? b = some o → h'.get? b = some o) (h71 : Mine.T71 h') {D : Addr} {o : Obj} (hn : h.get? D = none) (hD : h'.get? D = some o) : ∃ q78' q71' tl2, Led g L h' m cs q78' q71' (tl2 ++ (D, o) :: tl) := by
  have h78 : Mine.T78 h' := x.T78.move (Q := 71) x.T71.nocode (fun o e => hk _ _ (show (78 : Nat) ∉ [71] by decide) e) fun b o _ h2 e => hk _ _ (fun q => h2 (by simpa using q)) e
  obtain ⟨a, b, c, X⟩ := x.but hL n71 n78 (fun b o hb e => hk b o (fun q => hb (by simp only [List.mem_cons, List.not_mem_nil, or_false] at q ⊢; exact .inl q)) e) h71 h78 (new := [(D, o)]) (fun p hp => by
    rcases List.mem_cons.mp hp with rfl | hp
    · exact ⟨hD, hn⟩
    · cases hp)
  exact ⟨a, b, c, X⟩

section
variable {w : World} {A : Around} {lo : List Str} {mean : ExcName → Option Value} {mg mb : Str → Option Value} {g : Heap}
local macro_rules | `(tactic| walk_at "getMethod ref") => `(tactic| ((with_reducible show wpAny _ _ (getMethod _ (Str.ofString "count") _) _ _ _); refine Stop.intro ?_))
local macro_rules | `(tactic| walk_at "execs cons Assign cons") => `(tactic| ((with_reducible show wpAny _ _ (execs (Stmt.Assign [Expr.Name (Str.ofString "m") _] _ _ :: _) _) _ _ _); refine Stop.intro ?_))

set_option pp.deepTerms false in
theorem seg_e {gens : Array GenState} {drawn : Drawn} {os : OsState} {tk : Nat} {hp : Heap} {L fa : Addr} {cd : Value} {m : Str → Option Value} {Q : Flow → Shared → Prop} {o0 o1 o2 o3 o4 o5 o6 o7 o8 o9 q78 q71 : Obj} {tl : List (Addr × Obj)}
   (K : LawK w lo mean mg mb g A L) (X : Led g L hp m ([(L + 1 + 1 + 1 + 1 + 1 + 1 + 1 + 1 + 1 + 1, o0), (L + 1 + 1 + 1 + 1 + 1 + 1 + 1 + 1 + 1, o1), (L + 1 + 1 + 1 + 1 + 1 + 1 + 1 + 1, o2), (L + 1 + 1 + 1 + 1 + 1 + 1 + 1, o3), (L + 1 + 1 + 1 + 1 + 1 + 1, o4), (L + 1 + 1 + 1 + 1 + 1, o5), (L + 1 + 1 + 1 + 1, o6), (L + 1 + 1 + 1, o7), (L + 1 + 1, o8), (L + 1, o9)] : List (Addr × Obj)) q78 q71 tl) {pA pB hE : Addr} {uA uB uE : List Value} {nA nB nE : Nat}
   (e3 : o3.data = .cell (some (.ref hE))) (e6 : o6.data = .cell (some (.ref pB))) (e7 : o7.data = .cell (some (.ref pA)))
   {pa pb he : List Int} {pa0 pb0 wd : Int} {tw : Tok} (hAm : (pA, listOf uA.toArray nA) ∈ tl) (hiA : IntsAre uA pa) (hBm : (pB, listOf uB.toArray nB) ∈ tl) (hiB : IntsAre uB pb) (hEm : (hE, listOf uE.toArray nE) ∈ tl) (hiE : IntsAre uE he)
   (hpa0 : pa[0]? = some pa0) (hpb0 : pb[0]? = some pb0) (ha0 : 0 ≤ pa0 ∧ pa0 ≤ 20) (hb0 : 0 ≤ pb0 ∧ pb0 ≤ 20) (hw : m (Str.ofString "width") = some (.int wd tw)) (hwd : 3 ≤ wd ∧ wd ≤ 42)
   (hb1 : Builtin.Int.intBits (dv wd (bitsL pa (pa0 + 1).toNat)) ≤ 2 ^ 20) (hb2 : Builtin.Int.intBits (dv wd (bitsL pb (pb0 + 1).toNat)) ≤ 2 ^ 20) {cnt : Nat} (hprod : 0 ≤ dv wd (bitsL pa (pa0 + 1).toNat) * dv wd (bitsL pb (pb0 + 1).toNat)) (hbits : Builtin.Int.intBits (dv wd (bitsL pa (pa0 + 1).toNat) * dv wd (bitsL pb (pb0 + 1).toNat)) ≤ 4096)
   (hcnt : (cnt : Int) = ((Builtin.Int.intBits (dv wd (bitsL pa (pa0 + 1).toNat) * dv wd (bitsL pb (pb0 + 1).toNat)) : Int) + wd - 1).fdiv wd) (hc64 : cnt ≤ 64)
   (hdig : digs wd cnt (dv wd (bitsL pa (pa0 + 1).toNat) * dv wd (bitsL pb (pb0 + 1).toNat)) = (List.range (pa0 + pb0 + 1).toNat).map fun (i : Nat) => ((he.count (i : Int) : Nat) : Int))
   (next : ∀ h' tk' m' q78 q71 tl', Led g L h' m' ([(L + 1 + 1 + 1 + 1 + 1 + 1 + 1 + 1 + 1 + 1, o0), (L + 1 + 1 + 1 + 1 + 1 + 1 + 1 + 1 + 1, o1), (L + 1 + 1 + 1 + 1 + 1 + 1 + 1 + 1, o2), (L + 1 + 1 + 1 + 1 + 1 + 1 + 1, o3), (L + 1 + 1 + 1 + 1 + 1 + 1, o4), (L + 1 + 1 + 1 + 1 + 1, o5), (L + 1 + 1 + 1 + 1, o6), (L + 1 + 1 + 1, o7), (L + 1 + 1, o8), (L + 1, o9)] : List (Addr × Obj)) q78 q71 tl' → (∀ p ∈ tl, p ∈ tl') → (∀ y, y ≠ Str.ofString "one" → y ≠ Str.ofString "two" → m' y = m y) →
     wpAny (model prog0 w) A (execs (lawBody.drop 17) (envOfC (Str.ofString "law") lawScope L fa cd)) Q (fun _ _ => False) ⟨h', gens, drawn, tk', os⟩) :
   wpAny (model prog0 w) A (execs (lawBody.drop 14) (envOfC (Str.ofString "law") lawScope L fa cd)) Q (fun _ _ => False) ⟨hp, gens, drawn, tk, os⟩ := by
  conv in execs _ _ =>
    congr
    · whnf
    · arg 2
      whnf
  dsimp only
  have KX := K.B.G.X
  have T := K.B.G.T
  have hL := K.hL
  have hA := K.hA
  have F := X.F
  have N := X.N
  have off := X.off
  dsimp only [List.cons_append, List.nil_append] at N
  have G1 : Gd w lo mean mg mb hp := K.B.G.keeps F.keep
  have c7 : hp.IsCell (L + 1 + 1 + 1) (some (.ref pA)) := cell_of N e7 (by k_mem)
  obtain ⟨tA, hxA⟩ := ints_get hiA hpa0
  obtain ⟨tB, hxB⟩ := ints_get hiB hpb0
  w_top on
  k_steps
  refine Stop.out ?_
  refine lc_range (a := 0) (c := 1) (n := (pa0 + 1).toNat) (by decide) (fun i y => ∃ t, y = .int (if ((i : Int) ∈ pa) then 1 else 0) t) hA.hh F N (by omega) rfl (by decide) rfl (by decide) rfl ?_ ?_ ?_ (fun _ => rfl)
  · k_steps
    refine Stop.out ?_
    refine sub_at (X.isList hAm) (by decide) (by decide) (x := .int pa0 tA) (by simpa using hxA) ?_
    k_steps
    refine Stop.out ?_
    refine call_range_1 ?_
    refine ⟨_, _, _, _, _, _, _, rfl, rfl, Heap.get?_push_size _ rfl, small_one (by decide) (by decide) (by omega) (by omega), ?_, fun b o e => Heap.get?_push_of_some _ e, by rw [Heap.size_push]; exact Nat.le_succ _⟩
    rw [rangeSize_one]; split <;> omega
  · intro C i t s₃ m₃ hi F3 hm
    obtain ⟨h3, gens3, drawn3, toks3, os3⟩ := s₃
    dsimp only at *
    refine wpAny_mono (Q := EltEnd (fun y => ∃ t, y = .int (if ((i : Int) ∈ pa) then 1 else 0) t) ⟨h3, gens3, drawn3, toks3, os3⟩) ?_ (fun _ _ h => h) fun _ _ e => e
    have e0 : 0 + (i : Int) * 1 = (i : Int) := by omega
    rw [e0] at hm
    k_steps
    refine Stop.out ?_
    refine in_list_ints (IsList.keepsAll (X.isList hAm) F3.keep) hiA ?_
    rw [mem_any]
    by_cases hin : (i : Int) ∈ pa
    · rw [decide_eq_true hin]
      k_steps
      exact ⟨⟨_, by rw [if_pos hin]⟩, _, _, rfl, fun _ _ e => e⟩
    · rw [decide_eq_false hin]
      k_steps
      exact ⟨⟨_, by rw [if_neg hin]⟩, _, _, rfl, fun _ _ e => e⟩
  · intro D h' tk' ys n F N hne hrow
    obtain ⟨ys⟩ := ys
    have X1 := X.sink F N hne
    clear F N hne
    have hi1 : IntsAre ys (bitsL pa (pa0 + 1).toNat) := row_ints hrow
    have hl1 : (bitsL pa (pa0 + 1).toNat).length ≤ 64 := by rw [bitsL, List.length_map, List.length_range]; omega
    have F := X1.F
    have N := X1.N
    dsimp only [List.cons_append, List.nil_append] at N
    k_steps
    refine Stop.out ?_
    refine d2i_ok K.B.G X1.F.keep K.B.n78 K.B.c78 (hA.le (by decide)) X1.T78 (X1.isList (.head _)) hi1 hl1 (bitsL_small (by omega)) (by omega) ?_
    rintro t1 s' hpk1 h78
    refine gen_goal fun GX hGX => ?_
    obtain ⟨h2, tk2, rfl, hk2⟩ := hpk1
    refine hGX ?_
    clear hGX
    refine gen_goal fun GX hGX => ?_
    obtain ⟨q78', q71', tl2, X2⟩ := X1.d2i hL K.B.n71 K.B.n78 hk2 h78
    refine hGX ?_
    clear hGX
    clear F N
    have F := X2.F
    have N := X2.N
    have off := X2.off
    dsimp only [List.cons_append, List.nil_append] at N
    have mtl : ∀ p ∈ tl, p ∈ tl2 ++ (D, listOf (List.toArray ys) n) :: tl := fun p hp' => List.mem_append_right _ (.tail _ hp')
    generalize tl2 ++ (D, listOf (List.toArray ys) n) :: tl = tl3 at X2 N off mtl
    k_steps
    (with_reducible rename Fr _ _ _ _ => F2); (with_reducible rename News _ _ _ _ => N2)
    have X3 : Led g L _ _ ([(L + 1 + 1 + 1 + 1 + 1 + 1 + 1 + 1 + 1 + 1, o0), (L + 1 + 1 + 1 + 1 + 1 + 1 + 1 + 1 + 1, o1), (L + 1 + 1 + 1 + 1 + 1 + 1 + 1 + 1, o2), (L + 1 + 1 + 1 + 1 + 1 + 1 + 1, o3), (L + 1 + 1 + 1 + 1 + 1 + 1, o4), (L + 1 + 1 + 1 + 1 + 1, o5), (L + 1 + 1 + 1 + 1, o6), (L + 1 + 1 + 1, o7), (L + 1 + 1, o8), (L + 1, o9)] : List (Addr × Obj)) q78' q71' tl3 := ⟨F2, N2, off, X2.t78, X2.t71, X.cl, X.ca⟩
    clear X1 X2 hk2 h78 G1
    have G1 : Gd w lo mean mg mb _ := K.B.G.keeps X3.F.keep
    have c6 := cell_of (c := L + 1 + 1 + 1 + 1) N2 e6 (by k_mem)
    have hBm3 := mtl _ hBm
    refine Stop.out ?_
    refine lc_range (a := 0) (c := 1) (n := (pb0 + 1).toNat) (by decide) (fun i y => ∃ t, y = .int (if ((i : Int) ∈ pb) then 1 else 0) t) hA.hh X3.F X3.N (by omega) rfl (by decide) rfl (by decide) rfl ?_ ?_ ?_ (fun _ => rfl)
    · k_steps
      refine Stop.out ?_
      refine sub_at (X3.isList hBm3) (by decide) (by decide) (x := .int pb0 tB) (by simpa using hxB) ?_
      k_steps
      refine Stop.out ?_
      refine call_range_1 ?_
      refine ⟨_, _, _, _, _, _, _, rfl, rfl, Heap.get?_push_size _ rfl, small_one (by decide) (by decide) (by omega) (by omega), ?_, fun b o e => Heap.get?_push_of_some _ e, by rw [Heap.size_push]; exact Nat.le_succ _⟩
      rw [rangeSize_one]; split <;> omega
    · intro C i t s₃ m₃ hi F3 hm
      obtain ⟨h3, gens3, drawn3, toks3, os3⟩ := s₃
      dsimp only at *
      refine wpAny_mono (Q := EltEnd (fun y => ∃ t, y = .int (if ((i : Int) ∈ pb) then 1 else 0) t) ⟨h3, gens3, drawn3, toks3, os3⟩) ?_ (fun _ _ h => h) fun _ _ e => e
      have e0 : 0 + (i : Int) * 1 = (i : Int) := by omega
      rw [e0] at hm
      k_steps
      refine Stop.out ?_
      refine in_list_ints (IsList.keepsAll (X3.isList hBm3) F3.keep) hiB ?_
      rw [mem_any]
      by_cases hin : (i : Int) ∈ pb
      · rw [decide_eq_true hin]
        k_steps
        exact ⟨⟨_, by rw [if_pos hin]⟩, _, _, rfl, fun _ _ e => e⟩
      · rw [decide_eq_false hin]
        k_steps
        exact ⟨⟨_, by rw [if_neg hin]⟩, _, _, rfl, fun _ _ e => e⟩
    
    · intro D2 h4 tk4 ys2 n2 F N hne hrow2
      obtain ⟨ys2⟩ := ys2
      have X4 := X3.sink F N hne
      clear F N hne F2 N2
      have hi2 : IntsAre ys2 (bitsL pb (pb0 + 1).toNat) := row_ints hrow2
      have hl2 : (bitsL pb (pb0 + 1).toNat).length ≤ 64 := by rw [bitsL, List.length_map, List.length_range]; omega
      have F := X4.F
      have N := X4.N
      dsimp only [List.cons_append, List.nil_append] at N
      k_steps
      refine Stop.out ?_
      refine d2i_ok K.B.G X4.F.keep K.B.n78 K.B.c78 (hA.le (by decide)) X4.T78 (X4.isList (.head _)) hi2 hl2 (bitsL_small (by omega)) (by omega) ?_
      rintro t2 s' hpk2 h78
      refine gen_goal fun GX hGX => ?_
      obtain ⟨h5, tk5, rfl, hk5⟩ := hpk2
      refine hGX ?_
      clear hGX
      refine gen_goal fun GX hGX => ?_
      obtain ⟨q78'', q71'', tl4, X5⟩ := X4.d2i hL K.B.n71 K.B.n78 hk5 h78
      refine hGX ?_
      clear hGX
      clear F N
      have F := X5.F
      have N := X5.N
      have off := X5.off
      dsimp only [List.cons_append, List.nil_append] at N
      have mtl2 : ∀ p ∈ tl, p ∈ tl4 ++ (D2, listOf (List.toArray ys2) n2) :: tl3 := fun p hp' => List.mem_append_right _ (.tail _ (mtl p hp'))
      generalize tl4 ++ (D2, listOf (List.toArray ys2) n2) :: tl3 = tl5 at X5 N off mtl2
      k_steps
      (with_reducible rename Fr _ _ _ _ => F2); (with_reducible rename News _ _ _ _ => N2)
      have X6 : Led g L _ _ ([(L + 1 + 1 + 1 + 1 + 1 + 1 + 1 + 1 + 1 + 1, o0), (L + 1 + 1 + 1 + 1 + 1 + 1 + 1 + 1 + 1, o1), (L + 1 + 1 + 1 + 1 + 1 + 1 + 1 + 1, o2), (L + 1 + 1 + 1 + 1 + 1 + 1 + 1, o3), (L + 1 + 1 + 1 + 1 + 1 + 1, o4), (L + 1 + 1 + 1 + 1 + 1, o5), (L + 1 + 1 + 1 + 1, o6), (L + 1 + 1 + 1, o7), (L + 1 + 1, o8), (L + 1, o9)] : List (Addr × Obj)) q78'' q71'' tl5 := ⟨F2, N2, off, X5.t78, X5.t71, X.cl, X.ca⟩
      clear X3 X4 X5 hk5 h78 G1
      refine Stop.out ?_
      refine mul_int ?_ ?_
      · k_steps
        refine Stop.out ?_
        refine i2d_ok K.B.G X6.F.keep K.B.n71 K.B.c71 (hA.le (by decide)) X6.T71 hprod hbits (by omega) hcnt hc64 ?_
        rintro D3 ys3 k3 s' hpk3 hn3 hD3 hi3 h71
        refine gen_goal fun GX hGX => ?_
        obtain ⟨h6, tk6, rfl, hk6⟩ := hpk3
        refine hGX ?_
        clear hGX
        obtain ⟨ys3⟩ := ys3
        refine gen_goal fun GX hGX => ?_
        obtain ⟨q78, q71, tl6, X7⟩ := X6.i2d hL K.B.n71 K.B.n78 hk6 h71 hn3 hD3
        refine hGX ?_
        clear hGX
        clear F2 N2
        have F := X7.F
        have N := X7.N
        have off := X7.off
        dsimp only [List.cons_append, List.nil_append] at N
        have mtl3 : ∀ p ∈ tl, p ∈ tl6 ++ (D3, listOf (List.toArray ys3) k3) :: tl5 := fun p hp' => List.mem_append_right _ (.tail _ (mtl2 p hp'))
        have m3 : (D3, listOf (List.toArray ys3) k3) ∈ tl6 ++ (D3, listOf (List.toArray ys3) k3) :: tl5 := List.mem_append_right _ (.head _)
        generalize tl6 ++ (D3, listOf (List.toArray ys3) k3) :: tl5 = tl7 at X7 N off mtl3 m3
        have G1 : Gd w lo mean mg mb _ := K.B.G.keeps X7.F.keep
        have c3 := cell_of (c := L + 1 + 1 + 1 + 1 + 1 + 1 + 1) N e3 (by k_mem)
        k_steps
        refine Stop.out ?_
        refine lc_range (a := 0) (c := 1) (n := (pa0 + pb0 + 1).toNat) (by decide) (fun i y => ∃ t, y = .int ((he.count (i : Int) : Nat) : Int) t) hA.hh F N (by omega) rfl (by decide) rfl (by decide) rfl ?_ ?_ ?_ (fun _ => rfl)
        · k_steps
          refine Stop.out ?_
          refine sub_at (X7.isList (mtl3 _ hAm)) (by decide) (by decide) (x := .int pa0 tA) (by simpa using hxA) ?_
          k_steps
          refine Stop.out ?_
          refine sub_at (X7.isList (mtl3 _ hBm)) (by decide) (by decide) (x := .int pb0 tB) (by simpa using hxB) ?_
          k_steps
          refine Stop.out ?_
          refine call_range_1 ?_
          refine ⟨_, _, _, _, _, _, _, rfl, rfl, Heap.get?_push_size _ rfl, small_one (by decide) (by decide) (by omega) (by omega), ?_, fun b o e => Heap.get?_push_of_some _ e, by rw [Heap.size_push]; exact Nat.le_succ _⟩
          rw [rangeSize_one]; split <;> omega
        · intro C i t s₃ m₃ hi F3 hm
          obtain ⟨h3, gens3, drawn3, toks3, os3⟩ := s₃
          dsimp only at *
          refine wpAny_mono (Q := EltEnd (fun y => ∃ t, y = .int ((he.count (i : Int) : Nat) : Int) t) ⟨h3, gens3, drawn3, toks3, os3⟩) ?_ (fun _ _ h => h) fun _ _ e => e
          have e0 : 0 + (i : Int) * 1 = (i : Int) := by omega
          rw [e0] at hm
          have hl8 := X7.isList (mtl3 _ hEm)
          have hl9 := IsList.keepsAll hl8 F3.keep
          have hd9 : h3.get? hE = some (listOf uE.toArray nE) := F3.keep _ _ (X7.get (mtl3 _ hEm))
          k_steps
          refine Stop.out ?_
          refine getMethod_list_of PySem.F.slot_list_count PySem.F.type_list_count hl9 ⟨_, hd9, rfl⟩ ?_
          k_steps
          refine Stop.out ?_
          refine count_list_ints hl9 hiE ?_
          k_steps
          exact ⟨⟨_, rfl⟩, _, _, rfl, fun _ _ e => e⟩
        · intro D4 h8 tk8 ys4 n4 F4 N4 hne4 hrow4
          obtain ⟨ys4⟩ := ys4
          have X8 := X7.sink F4 N4 hne4
          clear F4 N4 hne4 F N
          have hi4 : IntsAre ys4 _ := row_ints hrow4
          have F := X8.F
          have N := X8.N
          have off := X8.off
          dsimp only [List.cons_append, List.nil_append] at N off
          k_steps
          refine Stop.out ?_
          rw [hdig] at hi3
          refine ke_ne_ints (X8.isList (.tail _ m3)) (X8.isList (.head _)) hi3 hi4 (by have := hA.un; show _ < 9900; omega) ?_
          rw [decide_eq_true rfl]
          k_steps
          refine Stop.out ?_
          refine next _ _ _ _ _ _ X8 (fun p hp' => .tail _ (mtl3 p hp')) (fun y h1 h2 => ?_)
          rw [if_neg h2, if_neg h1]
      · exact IntMulOk.of_bits hb1 hb2
end
end Mine
end

section
open PySem PySem.W PySem.Calls PyProof.Rows
set_option Elab.async false
namespace Mine
set_option maxRecDepth 100000
set_option maxHeartbeats 8000000

theorem fillW6 (h : PySem.Challenge.rw_ta0035_01.about = [] → hd.heap_39 = hd.heap_39) : (PySem.Challenge.rw_ta0035_01.about = [] → hd.heap_39 = hd.heap_39) := by
  k_fill
  exact h

noncomputable def fb (d : Int) : Int := fibs.getD d.toNat 0
noncomputable def ahd (n : Int) : Int := (n + 1) * 832040 / 1346269
noncomputable def rst (n : Int) : Int := (n + 1) * 832040 % 1346269

theorem paired_ints {vs : List Value} {ns : List Int} (h : IntsAre vs ns) {f : Int → Int} : ∀ {ys : List Value}, Paired (fun v y => ∃ d t t', v = .int d t ∧ y = .int (f d) t') vs ys → IntsAre ys (ns.map f) := by
  induction h with
  | nil => intro ys hp; cases hp; exact .nil
  | cons n t hr ih =>
    intro ys hp
    cases hp with
    | cons h1 h2 =>
      obtain ⟨d, u, u', e1, rfl⟩ := h1
      cases e1
      exact .cons _ _ (ih h2)

theorem fib_at {us : List Value} (hus : IntsAre us fibs) {d : Int} (h0 : 0 ≤ d) (h1 : d ≤ 31) : ∃ t, us.toArray[d.toNat]? = some (.int (fb d) t) := by
  have hl : d.toNat < fibs.length := by show d.toNat < 32; omega
  obtain ⟨t, ht⟩ := ints_get (i := d.toNat) hus (List.getElem?_eq_getElem hl)
  refine ⟨t, ?_⟩
  rw [List.getElem?_toArray, ht, fb, List.getD_eq_getElem?_getD, List.getElem?_eq_getElem hl]
  rfl

theorem mul_ok {a b : Int} (h0 : 0 ≤ a) (h1 : a < 2 ^ 62) : IntMulOk a b := IntMulOk.of_left (Nat.le_trans (intBits_lt h0 h1) (by decide))

section
variable {w : World} {A : Around} {lo : List Str} {mean : ExcName → Option Value} {mg mb : Str → Option Value} {g : Heap}
local macro_rules | `(tactic| walk_at "execs cons") => `(tactic| ((with_reducible show wpAny _ _ (execs (Stmt.For _ _ _ _ _ :: _) _) _ _ _); refine Stop.intro ?_))

set_option pp.deepTerms false in
theorem seg_f {gens : Array GenState} {drawn : Drawn} {os : OsState} {tk : Nat} {hp : Heap} {L fa : Addr} {cd : Value} {m : Str → Option Value} {Q : Flow → Shared → Prop} {o0 o1 o2 o3 o4 o5 o6 o7 o8 o9 q78 q71 : Obj} {tl : List (Addr × Obj)}
   (K : LawK w lo mean mg mb g A L) (X : Led g L hp m ([(L + 1 + 1 + 1 + 1 + 1 + 1 + 1 + 1 + 1 + 1, o0), (L + 1 + 1 + 1 + 1 + 1 + 1 + 1 + 1 + 1, o1), (L + 1 + 1 + 1 + 1 + 1 + 1 + 1 + 1, o2), (L + 1 + 1 + 1 + 1 + 1 + 1 + 1, o3), (L + 1 + 1 + 1 + 1 + 1 + 1, o4), (L + 1 + 1 + 1 + 1 + 1, o5), (L + 1 + 1 + 1 + 1, o6), (L + 1 + 1 + 1, o7), (L + 1 + 1, o8), (L + 1, o9)] : List (Addr × Obj)) q78 q71 tl) {D hE : Addr} {us uE : List Value} {ep nE : Nat}
   (e3 : o3.data = .cell (some (.ref hE))) (e8 : o8.data = .cell (some (.ref D))) (hD : (D, listOf us.toArray ep) ∈ tl) (hus : IntsAre us fibs)
   {he : List Int} (hEm : (hE, listOf uE.toArray nE) ∈ tl) (hiE : IntsAre uE he) (hhe : ∀ d ∈ he, 0 ≤ d ∧ d ≤ 31) (hhl : he.length ≤ 4096)
   {a b c : Int} {ta tb tc : Tok} (ha : m (Str.ofString "a") = some (.int a ta)) (hb : m (Str.ofString "b") = some (.int b tb)) (hc : m (Str.ofString "c") = some (.int c tc)) (ha1 : 0 ≤ a ∧ a < 100000) (hb1 : 0 ≤ b ∧ b < 100000) (hc1 : 0 ≤ c ∧ c < 100000)
   (hm1 : 0 ≤ (he.map fb).sum ∧ (he.map fb).sum < 100000) (hm : (he.map fb).sum = a * b + a * ahd b + ahd a * b) (haq : 0 ≤ ahd a ∧ ahd a < 2 ^ 62)
   (next : ∀ h' tk' m' q78 q71 tl' tm t1 t2 t3 t4 t5 t6 t7 t8, Led g L h' m' ([(L + 1 + 1 + 1 + 1 + 1 + 1 + 1 + 1 + 1 + 1, o0), (L + 1 + 1 + 1 + 1 + 1 + 1 + 1 + 1 + 1, o1), (L + 1 + 1 + 1 + 1 + 1 + 1 + 1 + 1, o2), (L + 1 + 1 + 1 + 1 + 1 + 1 + 1, o3), (L + 1 + 1 + 1 + 1 + 1 + 1, o4), (L + 1 + 1 + 1 + 1 + 1, o5), (L + 1 + 1 + 1 + 1, o6), (L + 1 + 1 + 1, o7), (L + 1 + 1, o8), (L + 1, o9)] : List (Addr × Obj)) q78 q71 tl' → (∀ p ∈ tl, p ∈ tl') → m' (Str.ofString "m") = some (.int (he.map fb).sum tm) →
     m' (Str.ofString "a_ahead") = some (.int (ahd a) t1) → m' (Str.ofString "a_rest") = some (.int (rst a) t2) → m' (Str.ofString "b_ahead") = some (.int (ahd b) t3) → m' (Str.ofString "b_rest") = some (.int (rst b) t4) → m' (Str.ofString "c_ahead") = some (.int (ahd c) t5) → m' (Str.ofString "c_rest") = some (.int (rst c) t6) →
     m' (Str.ofString "m_ahead") = some (.int (ahd (he.map fb).sum) t7) → m' (Str.ofString "m_rest") = some (.int (rst (he.map fb).sum) t8) → m' (Str.ofString "a") = some (.int a ta) → m' (Str.ofString "b") = some (.int b tb) → m' (Str.ofString "c") = some (.int c tc) → m' (Str.ofString "end") = m (Str.ofString "end") →
     wpAny (model prog0 w) A (execs (lawBody.drop 23) (envOfC (Str.ofString "law") lawScope L fa cd)) Q (fun _ _ => False) ⟨h', gens, drawn, tk', os⟩) :
   wpAny (model prog0 w) A (execs (lawBody.drop 17) (envOfC (Str.ofString "law") lawScope L fa cd)) Q (fun _ _ => False) ⟨hp, gens, drawn, tk, os⟩ := by
  conv in execs _ _ =>
    congr
    · whnf
    · arg 2
      whnf
  dsimp only
  have KX := K.B.G.X
  have T := K.B.G.T
  have hL := K.hL
  have hA := K.hA
  have F := X.F
  have N := X.N
  have off := X.off
  dsimp only [List.cons_append, List.nil_append] at N
  have G1 : Gd w lo mean mg mb hp := K.B.G.keeps F.keep
  have c8 : hp.IsCell (L + 1 + 1) (some (.ref D)) := cell_of N e8 (by k_mem)
  w_top on
  k_steps
  refine Stop.out ?_
  refine lc_list (fun v y => ∃ d t t', v = .int d t ∧ y = .int (fb d) t') hA.hh F N (X.isList hEm) ?_ rfl (by decide) rfl (by decide) rfl ?_ ?_ ?_ (fun _ => rfl)
  · have := IntsAre.length hiE
    rw [List.size_toArray, this]; omega
  · k_steps
  · intro C i v s₃ m₃ hv F3 hm
    have : ∃ d t, v = .int d t ∧ 0 ≤ d ∧ d ≤ 31 := by
      obtain ⟨d, t, e1, e2⟩ := ints_at hiE (by simpa using hv)
      exact ⟨d, t, e1, hhe d e2⟩
    obtain ⟨d, t, rfl, hd0, hd1⟩ := this
    obtain ⟨h3, gens3, drawn3, toks3, os3⟩ := s₃
    dsimp only at *
    refine wpAny_mono (Q := EltEnd (fun y => ∃ d' t1 t', Value.int d t = .int d' t1 ∧ y = .int (fb d') t') ⟨h3, gens3, drawn3, toks3, os3⟩) ?_ (fun _ _ h => h) fun _ _ e => e
    k_steps
    refine Stop.out ?_
    obtain ⟨t9, hx⟩ := fib_at hus hd0 hd1
    refine sub_at (IsList.keepsAll (X.isList hD) F3.keep) hd0 (by omega) hx ?_
    exact ⟨⟨d, t, _, rfl, rfl⟩, _, _, rfl, fun _ _ e => e⟩
  · intro D1 h' tk' ys n F1 N1 hne hpd
    obtain ⟨ys⟩ := ys
    have X1 := X.sink F1 N1 hne
    clear F1 N1 hne F N off
    have hi1 := paired_ints hiE hpd
    have F := X1.F
    have N := X1.N
    have off := X1.off
    dsimp only [List.cons_append, List.nil_append] at N off
    k_steps
    refine Stop.out ?_
    refine LSm.sum_ints F N hA.hh (vs := ys) (X1.isList (.head _)) hi1 (fun h2 tk2 t2 F2 N2 => ?_)
    generalize hmm : (he.map fb).sum = mm at *
    clear F N
    have X2 : Led g L _ m ([(L + 1 + 1 + 1 + 1 + 1 + 1 + 1 + 1 + 1 + 1, o0), (L + 1 + 1 + 1 + 1 + 1 + 1 + 1 + 1 + 1, o1), (L + 1 + 1 + 1 + 1 + 1 + 1 + 1 + 1, o2), (L + 1 + 1 + 1 + 1 + 1 + 1 + 1, o3), (L + 1 + 1 + 1 + 1 + 1 + 1, o4), (L + 1 + 1 + 1 + 1 + 1, o5), (L + 1 + 1 + 1 + 1, o6), (L + 1 + 1 + 1, o7), (L + 1 + 1, o8), (L + 1, o9)] : List (Addr × Obj)) q78 q71 ((D1, listOf (List.toArray ys) n) :: tl) := ⟨F2, N2, off, X1.t78, X1.t71, X.cl, X.ca⟩
    have mt : ∀ p ∈ tl, p ∈ (D1, listOf (List.toArray ys) n) :: tl := fun p hp' => .tail _ hp'
    generalize (D1, listOf (List.toArray ys) n) :: tl = tlA at X2 N2 off mt
    clear X1
    k_steps
    (with_reducible rename Fr _ _ _ _ => F3); (with_reducible rename News _ _ _ _ => N3)
    have Y0 : Led g L _ _ ([(L + 1 + 1 + 1 + 1 + 1 + 1 + 1 + 1 + 1 + 1, o0), (L + 1 + 1 + 1 + 1 + 1 + 1 + 1 + 1 + 1, o1), (L + 1 + 1 + 1 + 1 + 1 + 1 + 1 + 1, o2), (L + 1 + 1 + 1 + 1 + 1 + 1 + 1, o3), (L + 1 + 1 + 1 + 1 + 1 + 1, o4), (L + 1 + 1 + 1 + 1 + 1, o5), (L + 1 + 1 + 1 + 1, o6), (L + 1 + 1 + 1, o7), (L + 1 + 1, o8), (L + 1, o9)] : List (Addr × Obj)) q78 q71 tlA := ⟨F3, N3, off, X2.t78, X2.t71, X.cl, X.ca⟩
    clear X2 off
    refine Stop.out ?_
    refine ahead_ok K.B Y0.F.keep Y0.T71 Y0.T78 (hA.le (by decide)) ha1 (Y0.isList (mt _ hD)) hus rfl rfl rfl ?_
    rintro E0 ti0 ui0 s' ⟨h3, tk3, rfl, hk3⟩ h71 h78 hp3 hn3
    obtain ⟨q80, q70, tl2, Z0⟩ := Y0.but hL K.B.n71 K.B.n78 hk3 h71 h78 (new := [(E0, pairT (ahd a) ti0 (rst a) ui0)]) (fun p hp' => by
      rcases List.mem_cons.mp hp' with rfl | hp'
      · exact ⟨hp3, hn3⟩
      · cases hp')
    have mt0 : ∀ p ∈ tl, p ∈ tl2 ++ ([(E0, pairT (ahd a) ti0 (rst a) ui0)] ++ tlA) := fun p hp' => List.mem_append_right _ (List.mem_append_right _ (mt _ hp'))
    have hTup : h3.IsTuple E0 #[.int (ahd a) ti0, .int (rst a) ui0] := ⟨_, hp3, rfl, _, rfl⟩
    clear hk3 h71 h78 hp3 hn3 Y0 F3 N3 mt
    have F := Z0.F
    have N := Z0.N
    have off := Z0.off
    generalize tl2 ++ ([(E0, pairT (ahd a) ti0 (rst a) ui0)] ++ tlA) = tlB0 at Z0 N off mt0
    dsimp only [List.cons_append, List.nil_append] at N
    k_steps
    refine Stop.out ?_
    refine unpackN_ F N hTup hA.hh rfl rfl fun h4 F4 N4 => ?_
    clear hTup F N
    k_steps
    (with_reducible rename Fr _ _ _ _ => F3); (with_reducible rename News _ _ _ _ => N3)
    have Y1 : Led g L _ _ ([(L + 1 + 1 + 1 + 1 + 1 + 1 + 1 + 1 + 1 + 1, o0), (L + 1 + 1 + 1 + 1 + 1 + 1 + 1 + 1 + 1, o1), (L + 1 + 1 + 1 + 1 + 1 + 1 + 1 + 1, o2), (L + 1 + 1 + 1 + 1 + 1 + 1 + 1, o3), (L + 1 + 1 + 1 + 1 + 1 + 1, o4), (L + 1 + 1 + 1 + 1 + 1, o5), (L + 1 + 1 + 1 + 1, o6), (L + 1 + 1 + 1, o7), (L + 1 + 1, o8), (L + 1, o9)] : List (Addr × Obj)) q80 q70 tlB0 := ⟨F3, N3, off, Z0.t78, Z0.t71, X.cl, X.ca⟩
    clear Z0 off
    refine Stop.out ?_
    refine ahead_ok K.B Y1.F.keep Y1.T71 Y1.T78 (hA.le (by decide)) hb1 (Y1.isList (mt0 _ hD)) hus rfl rfl rfl ?_
    rintro E1 ti1 ui1 s' ⟨h3, tk3, rfl, hk3⟩ h71 h78 hp3 hn3
    obtain ⟨q81, q71, tl2, Z1⟩ := Y1.but hL K.B.n71 K.B.n78 hk3 h71 h78 (new := [(E1, pairT (ahd b) ti1 (rst b) ui1)]) (fun p hp' => by
      rcases List.mem_cons.mp hp' with rfl | hp'
      · exact ⟨hp3, hn3⟩
      · cases hp')
    have mt1 : ∀ p ∈ tl, p ∈ tl2 ++ ([(E1, pairT (ahd b) ti1 (rst b) ui1)] ++ tlB0) := fun p hp' => List.mem_append_right _ (List.mem_append_right _ (mt0 _ hp'))
    have hTup : h3.IsTuple E1 #[.int (ahd b) ti1, .int (rst b) ui1] := ⟨_, hp3, rfl, _, rfl⟩
    clear hk3 h71 h78 hp3 hn3 Y1 F3 N3 mt0
    have F := Z1.F
    have N := Z1.N
    have off := Z1.off
    generalize tl2 ++ ([(E1, pairT (ahd b) ti1 (rst b) ui1)] ++ tlB0) = tlB1 at Z1 N off mt1
    dsimp only [List.cons_append, List.nil_append] at N
    k_steps
    refine Stop.out ?_
    refine unpackN_ F N hTup hA.hh rfl rfl fun h4 F4 N4 => ?_
    clear hTup F N
    k_steps
    (with_reducible rename Fr _ _ _ _ => F3); (with_reducible rename News _ _ _ _ => N3)
    have Y2 : Led g L _ _ ([(L + 1 + 1 + 1 + 1 + 1 + 1 + 1 + 1 + 1 + 1, o0), (L + 1 + 1 + 1 + 1 + 1 + 1 + 1 + 1 + 1, o1), (L + 1 + 1 + 1 + 1 + 1 + 1 + 1 + 1, o2), (L + 1 + 1 + 1 + 1 + 1 + 1 + 1, o3), (L + 1 + 1 + 1 + 1 + 1 + 1, o4), (L + 1 + 1 + 1 + 1 + 1, o5), (L + 1 + 1 + 1 + 1, o6), (L + 1 + 1 + 1, o7), (L + 1 + 1, o8), (L + 1, o9)] : List (Addr × Obj)) q81 q71 tlB1 := ⟨F3, N3, off, Z1.t78, Z1.t71, X.cl, X.ca⟩
    clear Z1 off
    refine Stop.out ?_
    refine ahead_ok K.B Y2.F.keep Y2.T71 Y2.T78 (hA.le (by decide)) hc1 (Y2.isList (mt1 _ hD)) hus rfl rfl rfl ?_
    rintro E2 ti2 ui2 s' ⟨h3, tk3, rfl, hk3⟩ h71 h78 hp3 hn3
    obtain ⟨q82, q72, tl2, Z2⟩ := Y2.but hL K.B.n71 K.B.n78 hk3 h71 h78 (new := [(E2, pairT (ahd c) ti2 (rst c) ui2)]) (fun p hp' => by
      rcases List.mem_cons.mp hp' with rfl | hp'
      · exact ⟨hp3, hn3⟩
      · cases hp')
    have mt2 : ∀ p ∈ tl, p ∈ tl2 ++ ([(E2, pairT (ahd c) ti2 (rst c) ui2)] ++ tlB1) := fun p hp' => List.mem_append_right _ (List.mem_append_right _ (mt1 _ hp'))
    have hTup : h3.IsTuple E2 #[.int (ahd c) ti2, .int (rst c) ui2] := ⟨_, hp3, rfl, _, rfl⟩
    clear hk3 h71 h78 hp3 hn3 Y2 F3 N3 mt1
    have F := Z2.F
    have N := Z2.N
    have off := Z2.off
    generalize tl2 ++ ([(E2, pairT (ahd c) ti2 (rst c) ui2)] ++ tlB1) = tlB2 at Z2 N off mt2
    dsimp only [List.cons_append, List.nil_append] at N
    k_steps
    refine Stop.out ?_
    refine unpackN_ F N hTup hA.hh rfl rfl fun h4 F4 N4 => ?_
    clear hTup F N
    k_steps
    (with_reducible rename Fr _ _ _ _ => F3); (with_reducible rename News _ _ _ _ => N3)
    have Y3 : Led g L _ _ ([(L + 1 + 1 + 1 + 1 + 1 + 1 + 1 + 1 + 1 + 1, o0), (L + 1 + 1 + 1 + 1 + 1 + 1 + 1 + 1 + 1, o1), (L + 1 + 1 + 1 + 1 + 1 + 1 + 1 + 1, o2), (L + 1 + 1 + 1 + 1 + 1 + 1 + 1, o3), (L + 1 + 1 + 1 + 1 + 1 + 1, o4), (L + 1 + 1 + 1 + 1 + 1, o5), (L + 1 + 1 + 1 + 1, o6), (L + 1 + 1 + 1, o7), (L + 1 + 1, o8), (L + 1, o9)] : List (Addr × Obj)) q82 q72 tlB2 := ⟨F3, N3, off, Z2.t78, Z2.t71, X.cl, X.ca⟩
    clear Z2 off
    refine Stop.out ?_
    refine ahead_ok K.B Y3.F.keep Y3.T71 Y3.T78 (hA.le (by decide)) hm1 (Y3.isList (mt2 _ hD)) hus rfl rfl rfl ?_
    rintro E3 ti3 ui3 s' ⟨h3, tk3, rfl, hk3⟩ h71 h78 hp3 hn3
    obtain ⟨q83, q73, tl2, Z3⟩ := Y3.but hL K.B.n71 K.B.n78 hk3 h71 h78 (new := [(E3, pairT (ahd mm) ti3 (rst mm) ui3)]) (fun p hp' => by
      rcases List.mem_cons.mp hp' with rfl | hp'
      · exact ⟨hp3, hn3⟩
      · cases hp')
    have mt3 : ∀ p ∈ tl, p ∈ tl2 ++ ([(E3, pairT (ahd mm) ti3 (rst mm) ui3)] ++ tlB2) := fun p hp' => List.mem_append_right _ (List.mem_append_right _ (mt2 _ hp'))
    have hTup : h3.IsTuple E3 #[.int (ahd mm) ti3, .int (rst mm) ui3] := ⟨_, hp3, rfl, _, rfl⟩
    clear hk3 h71 h78 hp3 hn3 Y3 F3 N3 mt2
    have F := Z3.F
    have N := Z3.N
    have off := Z3.off
    generalize tl2 ++ ([(E3, pairT (ahd mm) ti3 (rst mm) ui3)] ++ tlB2) = tlB3 at Z3 N off mt3
    dsimp only [List.cons_append, List.nil_append] at N
    k_steps
    refine Stop.out ?_
    refine unpackN_ F N hTup hA.hh rfl rfl fun h4 F4 N4 => ?_
    clear hTup F N
    k_steps
    refine Stop.out ?_
    refine mul_int ?_ (mul_ok ha1.1 (by omega))
    k_steps
    refine Stop.out ?_
    refine mul_int ?_ (mul_ok ha1.1 (by omega))
    k_steps
    refine Stop.out ?_
    refine mul_int ?_ (mul_ok haq.1 haq.2)
    k_steps
    refine Stop.out ?_
    rw [← hm]
    refine ne_int ?_
    rw [bne_self_eq_false]
    k_steps
    refine Stop.out ?_
    (with_reducible rename Fr _ _ _ _ => F3); (with_reducible rename News _ _ _ _ => N3)
    exact next _ _ _ _ _ _ _ _ _ _ _ _ _ _ _ ⟨F3, N3, off, Z3.t78, Z3.t71, X.cl, X.ca⟩ mt3 rfl rfl rfl rfl rfl rfl rfl rfl rfl ha hb hc rfl
end
end Mine
end

section
open PySem PySem.W PySem.Calls PyProof.Rows
set_option Elab.async false
namespace Mine
set_option maxRecDepth 100000
set_option maxHeartbeats 8000000

theorem fillW7 (h : PySem.Challenge.rw_ta0035_01.about = [] → hd.heap_39 = hd.heap_39) : (PySem.Challenge.rw_ta0035_01.about = [] → hd.heap_39 = hd.heap_39) := by
  k_fill
  exact h

theorem name_news {g h : Heap} {L : Addr} {news : List (Addr × Obj)} (_ : News g L h news) : ∃ n2, n2 = news := ⟨_, rfl⟩

/-- put on or taken off -/
noncomputable def sg (d : Int) : Int := if d % 2 = 1 then fb (31 - d) else -fb (31 - d)

section
variable {w : World} {A : Around} {lo : List Str} {mean : ExcName → Option Value} {mg mb : Str → Option Value} {g : Heap}
local macro_rules | `(tactic| walk_at "no such key 1") => `(tactic| refine Stop.intro ?_)
local macro_rules | `(tactic| walk_at "execs cons Assign cons") => `(tactic| ((with_reducible show wpAny _ _ (execs (Stmt.Assign [Expr.Name (Str.ofString "pm") _] _ _ :: _) _) _ _ _); refine Stop.intro ?_))

set_option pp.deepTerms false in
theorem seg_g {gens : Array GenState} {drawn : Drawn} {os : OsState} {tk : Nat} {hp : Heap} {L fa : Addr} {cd : Value} {m : Str → Option Value} {Q : Flow → Shared → Prop} {o0 o1 o2 o3 o4 o5 o6 o7 o8 o9 q78 q71 : Obj} {tl : List (Addr × Obj)}
   (K : LawK w lo mean mg mb g A L) (X : Led g L hp m ([(L + 1 + 1 + 1 + 1 + 1 + 1 + 1 + 1 + 1 + 1, o0), (L + 1 + 1 + 1 + 1 + 1 + 1 + 1 + 1 + 1, o1), (L + 1 + 1 + 1 + 1 + 1 + 1 + 1 + 1, o2), (L + 1 + 1 + 1 + 1 + 1 + 1 + 1, o3), (L + 1 + 1 + 1 + 1 + 1 + 1, o4), (L + 1 + 1 + 1 + 1 + 1, o5), (L + 1 + 1 + 1 + 1, o6), (L + 1 + 1 + 1, o7), (L + 1 + 1, o8), (L + 1, o9)] : List (Addr × Obj)) q78 q71 tl) {D pA pB pC hE : Addr} {us uA uB uC uE : List Value} {ep nA nB nC nE : Nat}
   (e3 : o3.data = .cell (some (.ref hE))) (e5 : o5.data = .cell (some (.ref pC))) (e6 : o6.data = .cell (some (.ref pB))) (e7 : o7.data = .cell (some (.ref pA))) (e8 : o8.data = .cell (some (.ref D))) (hD : (D, listOf us.toArray ep) ∈ tl) (hus : IntsAre us fibs)
   {pa pb pc he : List Int} (hAm : (pA, listOf uA.toArray nA) ∈ tl) (hiA : IntsAre uA pa) (hBm : (pB, listOf uB.toArray nB) ∈ tl) (hiB : IntsAre uB pb) (hCm : (pC, listOf uC.toArray nC) ∈ tl) (hiC : IntsAre uC pc) (hEm : (hE, listOf uE.toArray nE) ∈ tl) (hiE : IntsAre uE he)
   (bA : (∀ d ∈ pa, 0 ≤ d ∧ d ≤ 31) ∧ pa.length ≤ 4096) (bB : (∀ d ∈ pb, 0 ≤ d ∧ d ≤ 31) ∧ pb.length ≤ 4096) (bC : (∀ d ∈ pc, 0 ≤ d ∧ d ≤ 31) ∧ pc.length ≤ 4096) (bE : (∀ d ∈ he, 0 ≤ d ∧ d ≤ 31) ∧ he.length ≤ 4096)
   {a b c mm : Int} {t2 t4 t6 t8 : Tok} (h2 : m (Str.ofString "a_rest") = some (.int (rst a) t2)) (h4 : m (Str.ofString "b_rest") = some (.int (rst b) t4)) (h6 : m (Str.ofString "c_rest") = some (.int (rst c) t6)) (h8 : m (Str.ofString "m_rest") = some (.int (rst mm) t8))
   (rA : rst a = fb 30 + (pa.map sg).sum) (rB : rst b = fb 30 + (pb.map sg).sum) (rC : rst c = fb 30 + (pc.map sg).sum) (rE : rst mm = fb 30 + (he.map sg).sum)
   (next : ∀ h' tk' m' tl', Led g L h' m' ([(L + 1 + 1 + 1 + 1 + 1 + 1 + 1 + 1 + 1 + 1, o0), (L + 1 + 1 + 1 + 1 + 1 + 1 + 1 + 1 + 1, o1), (L + 1 + 1 + 1 + 1 + 1 + 1 + 1 + 1, o2), (L + 1 + 1 + 1 + 1 + 1 + 1 + 1, o3), (L + 1 + 1 + 1 + 1 + 1 + 1, o4), (L + 1 + 1 + 1 + 1 + 1, o5), (L + 1 + 1 + 1 + 1, o6), (L + 1 + 1 + 1, o7), (L + 1 + 1, o8), (L + 1, o9)] : List (Addr × Obj)) q78 q71 tl' → (∀ p ∈ tl, p ∈ tl') → (∀ y, y ≠ Str.ofString "rest" → y ≠ Str.ofString "dots" → m' y = m y) →
     wpAny (model prog0 w) A (execs (lawBody.drop 24) (envOfC (Str.ofString "law") lawScope L fa cd)) Q (fun _ _ => False) ⟨h', gens, drawn, tk', os⟩) :
   wpAny (model prog0 w) A (execs (lawBody.drop 23) (envOfC (Str.ofString "law") lawScope L fa cd)) Q (fun _ _ => False) ⟨hp, gens, drawn, tk, os⟩ := by
  conv in execs _ _ =>
    congr
    · whnf
    · arg 2
      whnf
  dsimp only
  have KX := K.B.G.X
  have T := K.B.G.T
  have hL := K.hL
  have hA := K.hA
  have F := X.F
  have N := X.N
  have off := X.off
  dsimp only [List.cons_append, List.nil_append] at N
  w_top on
  k_steps
  refine Stop.out ?_
  refine wpAny_For ?_ (fun _ => rfl)
  k_steps
  refine Stop.out ?_
  (with_reducible rename Fr _ _ _ _ => F1); (with_reducible rename News _ _ _ _ => N1)
  rename_i T1 k4 j4 T2 k3 j3 T3 k2 j2 T4 k1 j1 lD k0 j0
  obtain ⟨NW, hNW⟩ := name_news N1
  rw [← hNW] at N1
  have hsub : ∀ p ∈ ([(L + 1 + 1 + 1 + 1 + 1 + 1 + 1 + 1 + 1 + 1, o0), (L + 1 + 1 + 1 + 1 + 1 + 1 + 1 + 1 + 1, o1), (L + 1 + 1 + 1 + 1 + 1 + 1 + 1 + 1, o2), (L + 1 + 1 + 1 + 1 + 1 + 1 + 1, o3), (L + 1 + 1 + 1 + 1 + 1 + 1, o4), (L + 1 + 1 + 1 + 1 + 1, o5), (L + 1 + 1 + 1 + 1, o6), (L + 1 + 1 + 1, o7), (L + 1 + 1, o8), (L + 1, o9)] : List (Addr × Obj)) ++ (78, q78) :: (71, q71) :: tl, p ∈ NW := by
    rw [hNW]
    exact fun p hp => .tail _ (.tail _ (.tail _ (.tail _ (.tail _ hp))))
  have htl : ∀ p ∈ tl, p ∈ NW := fun p hp => hsub p (List.mem_append_right _ (.tail _ (.tail _ hp)))
  have data : ∀ (k : Nat) v, [Value.ref T1, .ref T2, .ref T3, .ref T4][k]? = some v → ∃ (T : Addr) (r : Int) (tr : Tok) (l : Addr) (uu : List Value) (nn : Nat) (ps : List Int), v = .ref T ∧ (T, { cls := .type "tuple", data := .seq #[.int r tr, .ref l] }) ∈ NW ∧ (l, listOf uu.toArray nn) ∈ tl ∧ IntsAre uu ps ∧ ((∀ d ∈ ps, 0 ≤ d ∧ d ≤ 31) ∧ ps.length ≤ 4096) ∧ r = fb 30 + (ps.map sg).sum := by
    intro k v hv
    rw [hNW]
    have hk : k < 4 := (List.getElem?_eq_some_iff.mp hv).1
    rcases (show k = 0 ∨ k = 1 ∨ k = 2 ∨ k = 3 by omega) with rfl | rfl | rfl | rfl
    · cases hv
      exact ⟨_, _, _, _, _, _, _, rfl, .tail _ (.tail _ (.tail _ (.tail _ (.head _)))), hAm, hiA, bA, rA⟩
    · cases hv
      exact ⟨_, _, _, _, _, _, _, rfl, .tail _ (.tail _ (.tail _ (.head _))), hBm, hiB, bB, rB⟩
    · cases hv
      exact ⟨_, _, _, _, _, _, _, rfl, .tail _ (.tail _ (.head _)), hCm, hiC, bC, rC⟩
    · cases hv
      exact ⟨_, _, _, _, _, _, _, rfl, .tail _ (.head _), hEm, hiE, bE, rE⟩
  have hl0 : ∃ n, (lD, listOf [Value.ref T1, .ref T2, .ref T3, .ref T4].toArray n) ∈ NW := by
    rw [hNW]
    exact ⟨_, .head _⟩
  obtain ⟨nl, hl0⟩ := hl0
  refine for_list hA.hh F1 N1 (vs := [.ref T1, .ref T2, .ref T3, .ref T4]) (fun k m' news' => news' = NW ∧ ∀ y, y ≠ Str.ofString "rest" → y ≠ Str.ofString "dots" → m' y = m y) ?_ ⟨rfl, fun _ _ _ => rfl⟩ ?_ ?_
  · rintro k m' news' h' ⟨rfl, _⟩ F N
    exact ⟨_, (N _ hl0).1, rfl, nl, rfl⟩
  · rintro k v m' news' h' tk' I o hv ⟨rfl, hm'⟩ F N hne
    refine gen_goal fun GX hGX => ?_
    obtain ⟨T, r, tr, l, uu, nn, ps, rfl, hT, hl, hiu, bu, hr⟩ := data k v hv
    refine hGX ?_
    clear hGX
    have hTup : h'.IsTuple T #[.int r tr, .ref l] := ⟨_, (N _ (.tail _ hT)).1, rfl, _, rfl⟩
    rw [hNW] at N
    k_steps
    refine Stop.out ?_
    refine unpackN_ F N hTup hA.hh rfl rfl fun h4 F4 N4 => ?_
    clear F N hTup
    k_steps
    refine Stop.out ?_
    (with_reducible rename Fr _ _ _ _ => F2); (with_reducible rename News _ _ _ _ => N2)
    have N3 := N2
    rw [← hNW] at N3
    obtain ⟨t30, hx30⟩ := fib_at hus (d := 30) (by decide) (by decide)
    refine sub_at ⟨_, (N3 _ (.tail _ (htl _ hD))).1, rfl, _, rfl⟩ (by decide) (by decide) hx30 ?_
    have G1 : Gd w lo mean mg mb _ := K.B.G.keeps F2.keep
    have c8 := cell_of (c := L + 1 + 1) N2 e8 (by k_mem)
    have hlD : Heap.IsList _ D us.toArray := ⟨_, (N3 _ (.tail _ (htl _ hD))).1, rfl, _, rfl⟩
    have hlL : Heap.IsList _ l uu.toArray := ⟨_, (N3 _ (.tail _ (htl _ hl))).1, rfl, _, rfl⟩
    k_steps
    refine Stop.out ?_
    refine lc_list (fun v y => ∃ d t t', v = .int d t ∧ y = .int (sg d) t') hA.hh F2 N2 hlL ?_ rfl (by decide) rfl (by decide) rfl ?_ ?_ ?_ (fun _ => rfl)
    · have := IntsAre.length hiu
      rw [List.size_toArray, this]; omega
    · k_steps
    · intro C i v s₃ m₃ hv F3 hm
      have : ∃ d t, v = .int d t ∧ 0 ≤ d ∧ d ≤ 31 := by
        obtain ⟨d, t, e1, e2⟩ := ints_at hiu (by simpa using hv)
        exact ⟨d, t, e1, bu.1 d e2⟩
      obtain ⟨d, t, rfl, hd0, hd1⟩ := this
      obtain ⟨h3, gens3, drawn3, toks3, os3⟩ := s₃
      dsimp only at *
      refine wpAny_mono (Q := EltEnd (fun y => ∃ d' t1 t', Value.int d t = .int d' t1 ∧ y = .int (sg d') t') ⟨h3, gens3, drawn3, toks3, os3⟩) ?_ (fun _ _ h => h) fun _ _ e => e
      obtain ⟨t9, hx⟩ := fib_at hus (d := 31 - d) (by omega) (by omega)
      have hmod : d.fmod 2 = d % 2 := Int.fmod_eq_emod_of_nonneg _ (by decide)
      k_steps
      · refine Stop.out ?_
        have hc : d.fmod 2 = 1 := by assumption
        refine sub_at (IsList.keepsAll hlD F3.keep) (by omega) (by omega) hx ?_
        exact ⟨⟨d, t, _, rfl, by rw [sg, if_pos (by omega)]⟩, _, _, rfl, fun _ _ e => e⟩
      · refine Stop.out ?_
        have hc : d.fmod 2 ≠ 1 := by assumption
        refine sub_at (IsList.keepsAll hlD F3.keep) (by omega) (by omega) hx ?_
        k_steps
        exact ⟨⟨d, t, _, rfl, by rw [sg, if_neg (by omega)]⟩, _, _, rfl, fun _ _ e => e⟩
    · intro D9 h9 tk9 ys9 n9 F9 N9 hne9 hpd
      obtain ⟨ys9⟩ := ys9
      have hi9 := paired_ints hiu hpd
      k_steps
      refine Stop.out ?_
      refine LSm.sum_ints F9 N9 hA.hh (vs := ys9) ⟨_, (N9 _ (.head _)).1, rfl, _, rfl⟩ hi9 (fun h8 tk8 t8 F8 N8 => ?_)
      clear F9 N9
      k_steps
      refine Stop.out ?_
      rw [hr]
      refine ne_int ?_
      rw [bne_self_eq_false]
      k_steps
      refine ⟨_, _, _, _, rfl, ⟨rfl, ?_⟩, F8, ?_, hne⟩
      · intro y h1 h2
        rw [if_neg h2, if_neg h1]
        exact hm' y h1 h2
      · rw [hNW]
        exact News.drop N8
  · rintro m' news' h' tk' ⟨rfl, hm'⟩ F N
    k_steps
    refine Stop.out ?_
    have hT1 := (show ∀ p ∈ tl, p ∈ tl from fun _ h => h)
    exact next _ _ _ _ ⟨F, fun p hp => N p (hsub p hp), X.off, X.t78, X.t71, X.cl, X.ca⟩ hT1 hm'
end
end Mine
end

section
open PySem PySem.W PySem.Calls PyProof.Rows
set_option Elab.async false
namespace Mine
set_option maxRecDepth 100000
set_option maxHeartbeats 8000000

theorem fillW8 (h : PySem.Challenge.rw_ta0035_01.about = [] → hd.heap_39 = hd.heap_39) : (PySem.Challenge.rw_ta0035_01.about = [] → hd.heap_39 = hd.heap_39) := by
  k_fill
  exact h

theorem ne_of_map {I : Addr} {l l' : List (Addr × Obj)} (h : ∀ p ∈ l, p.1 ≠ I) (e : l'.map (·.1) = l.map (·.1)) : ∀ p ∈ l', p.1 ≠ I := fun p hp => by
  have h1 : p.1 ∈ l.map (·.1) := e ▸ List.mem_map_of_mem hp
  obtain ⟨q, hq, e⟩ := List.mem_map.mp h1
  exact e ▸ h q hq

theorem LedI.sink {g : Heap} {L : Addr} {h h' : Heap} {m m' : Str → Option Value} {cs : List (Addr × Obj)} {q78 q71 : Obj} {tl : List (Addr × Obj)} {I D : Addr} {o oD : Obj} (x : LedI g L h m cs q78 q71 tl I o) (F : Fr g L h' m')
    (N : News g L h' ((D, oD) :: (I, o) :: (cs ++ (78, q78) :: (71, q71) :: tl))) (hne : ∀ p ∈ (I, o) :: (cs ++ (78, q78) :: (71, q71) :: tl), p.1 ≠ D) : LedI g L h' m' cs q78 q71 ((D, oD) :: tl) I o := by
  refine ⟨x.X.sink F (fun p hp => N p ?_) (fun p hp => hne p (.tail _ hp)), (N (I, o) (.tail _ (.head _))).1, x.iI, fun p hp => ?_, x.dI⟩
  · rcases List.mem_cons.mp hp with rfl | hp
    · exact .head _
    · exact .tail _ (.tail _ hp)
  · rcases List.mem_append.mp hp with hp | hp
    · exact x.nI p (List.mem_append_left _ hp)
    · rcases List.mem_cons.mp hp with rfl | hp
      · exact x.nI _ (List.mem_append_right _ (.head _))
      · rcases List.mem_cons.mp hp with rfl | hp
        · exact x.nI _ (List.mem_append_right _ (.tail _ (.head _)))
        · rcases List.mem_cons.mp hp with rfl | hp
          · exact fun q => hne (I, o) (.head _) q.symm
          · exact x.nI p (List.mem_append_right _ (.tail _ (.tail _ hp)))

theorem LedI.re {g : Heap} {L : Addr} {h h' : Heap} {m m' : Str → Option Value} {cs cs' : List (Addr × Obj)} {q78 q71 : Obj} {tl : List (Addr × Obj)} {I : Addr} {o : Obj} (x : LedI g L h m cs q78 q71 tl I o) (F : Fr g L h' m')
    (N : News g L h' ((I, o) :: (cs' ++ (78, q78) :: (71, q71) :: tl))) (cl : ∀ p ∈ cs', ∃ v, p.2.data = .cell v) (ca : ∀ a : Nat, L < a ∧ a ≤ L + 10 → ∃ o, (a, o) ∈ cs') (e : cs'.map (·.1) = cs.map (·.1)) : LedI g L h' m' cs' q78 q71 tl I o :=
  ⟨⟨F, fun p hp => N p (.tail _ hp), x.X.off, x.X.t78, x.X.t71, cl, ca⟩, (N _ (.head _)).1, x.iI, ne_of_map x.nI (by rw [List.map_append, List.map_append, e]), x.dI⟩

theorem LedI.offI {g : Heap} {L : Addr} {h : Heap} {m : Str → Option Value} {cs : List (Addr × Obj)} {q78 q71 : Obj} {tl : List (Addr × Obj)} {I : Addr} {o : Obj} (x : LedI g L h m cs q78 q71 tl I o) : @Ne Nat I 71 ∧ @Ne Nat I 78 ∧ (@LE.le Nat _ I L ∨ @LT.lt Nat _ (L + 10) I) := by
  refine ⟨fun q => x.nI (71, q71) (List.mem_append_right _ (.tail _ (.head _))) q.symm, fun q => x.nI (78, q78) (List.mem_append_right _ (.head _)) q.symm, ?_⟩
  rcases Nat.lt_or_ge L I with h1 | h1
  · rcases Nat.lt_or_ge (L + 10) I with h2 | h2
    · exact .inr h2
    · obtain ⟨o, ho⟩ := x.X.ca I ⟨h1, h2⟩
      exact absurd rfl (x.nI _ (List.mem_append_left _ ho))
  · exact .inl h1

/-- the figures -/
noncomputable def figs (ps : List Int) (p0 : Int) : List Nat := (List.range (p0 - 1).toNat).map fun (i : Nat) => if (p0 - (i : Int)) ∈ ps then 49 else 48

theorem row_strs {n : Nat} {f : Nat → Str} {ys : Array Value} (h : Row (fun i y => ∃ t, y = .str (f i) t) n ys) : ∃ us : List (Str × Tok), ys.toList = strValues us ∧ us.map (·.1) = (List.range n).map f := by
  obtain ⟨ys⟩ := ys
  have key : ∀ (ys : List Value) (f : Nat → Str), (∀ (i : Nat) y, ys[i]? = some y → ∃ t, y = .str (f i) t) → ∃ us : List (Str × Tok), ys = strValues us ∧ us.map (·.1) = (List.range ys.length).map f := by
    intro ys
    induction ys with
    | nil => intro f _; exact ⟨[], rfl, rfl⟩
    | cons y r ih =>
      intro f h
      obtain ⟨t, rfl⟩ := h 0 _ rfl
      obtain ⟨us, rfl, e⟩ := ih (fun i => f (i + 1)) fun i y e => h (i + 1) y (by simpa using e)
      refine ⟨(f 0, t) :: us, rfl, ?_⟩
      rw [List.map_cons, e, List.length_cons, List.range_succ_eq_map, List.map_cons, List.map_map]
      rfl
  have e : ys.length = n := h.1
  rw [← e]
  exact key ys f fun i y hy => h.2 i y (by simpa using hy)

theorem joinL_nil : ∀ l : List Nat, joinL [] (l.map fun c => [c]) = l
  | [] => rfl
  | [a] => rfl
  | a :: b :: r => by
    show [a] ++ ([] ++ joinL [] ((b :: r).map fun c => [c])) = a :: b :: r
    rw [joinL_nil (b :: r)]
    rfl

theorem figs_text (ps : List Int) (p0 : Int) : Str.join (Str.ofString "") ((List.range (p0 - 1).toNat).map fun (i : Nat) => if (p0 - (i : Int)) ∈ ps then Str.ofString "1" else Str.ofString "0") = mkS (figs ps p0) := by
  have e1 : (Str.ofString "1") = mkS [49] := by decide +kernel
  have e0 : (Str.ofString "0") = mkS [48] := by decide +kernel
  have ee : (Str.ofString "").cps.toList = [] := by decide +kernel
  have e2 : ((List.range (p0 - 1).toNat).map fun (i : Nat) => if (p0 - (i : Int)) ∈ ps then Str.ofString "1" else Str.ofString "0") = ((figs ps p0).map fun c => [c]).map mkS := by
    rw [figs, List.map_map, List.map_map]
    apply List.map_congr_left
    intro i _
    show (if _ then _ else _) = mkS [if _ then _ else _]
    split
    · exact e1
    · exact e0
  rw [e2]
  have h := join_cps (Str.ofString "") ((figs ps p0).map fun c => [c])
  rw [ee, joinL_nil] at h
  exact Str.ext' (Array.toList_inj.mp (by rw [h]))
end Mine
end

section
open PySem PySem.W PySem.Calls PyProof.Rows
set_option Elab.async false
namespace Mine
set_option maxRecDepth 100000
set_option maxHeartbeats 8000000

theorem fillW9 (h : PySem.Challenge.rw_ta0035_01.about = [] → hd.heap_39 = hd.heap_39) : (PySem.Challenge.rw_ta0035_01.about = [] → hd.heap_39 = hd.heap_39) := by
  k_fill
  exact h

theorem news_perm {g h : Heap} {L : Addr} {xs cs tl : List (Addr × Obj)} {a b : Addr × Obj} (N : News g L h (xs ++ (cs ++ a :: b :: tl))) : News g L h (cs ++ a :: b :: (xs ++ tl)) := fun p hp => N p (by
  rcases List.mem_append.mp hp with hp | hp
  · exact List.mem_append_right _ (List.mem_append_left _ hp)
  · rcases List.mem_cons.mp hp with rfl | hp
    · exact List.mem_append_right _ (List.mem_append_right _ (.head _))
    · rcases List.mem_cons.mp hp with rfl | hp
      · exact List.mem_append_right _ (List.mem_append_right _ (.tail _ (.head _)))
      · rcases List.mem_append.mp hp with hp | hp
        · exact List.mem_append_left _ hp
        · exact List.mem_append_right _ (List.mem_append_right _ (.tail _ (.tail _ hp))))

theorem off_gt {L p : Nat} (hL : @LT.lt Nat _ 78 L) (h : @LT.lt Nat _ (L + 10) p) : Off L p := by
  have : (78 : Nat) < L := hL
  exact ⟨by omega, by omega, .inr h⟩

theorem range_down : ∀ k : Nat, k < 32 → 2 ≤ k → Builtin.Range.small (k : Int) 1 (-1) = true ∧ Builtin.Range.rangeSize (k : Int) 1 (-1) = ((((k : Int) - 1).toNat : Nat) : Int) := by decide +kernel

theorem ones_len : ∀ (n : Nat) (f : Nat → Str), (∀ i, (f i).length ≤ 1) → (((List.range n).map f).map (·.length)).sum ≤ n := by
  intro n
  induction n with
  | zero => intro f _; exact Nat.le_refl 0
  | succ n ih =>
    intro f h
    rw [List.range_succ_eq_map, List.map_cons, List.map_cons, List.sum_cons]
    have h1 := ih (fun i => f (i + 1)) fun i => h (i + 1)
    have h2 := h 0
    have e : List.map f (List.map Nat.succ (List.range n)) = List.map (fun i => f (i + 1)) (List.range n) := by rw [List.map_map]; rfl
    rw [e]
    omega

/-- what one number's figures must be -/
structure FigOk (n : Int) (ps : List Int) (p0 : Int) : Prop where
  head : ps[0]? = some p0
  bnd : 2 ≤ p0 ∧ p0 ≤ 31
  num : 0 ≤ n ∧ n + 1 < 100000
  no11 : ∀ i, i + (Str.ofString "11").length ≤ (mkS (figs ps p0)).length → Builtin.Str.subAt (mkS (figs ps p0)) (Str.ofString "11") i = false
  ends : Txt.endswith (mkS (figs ps p0)) (Str.ofString "1") = (ahd (n + 1) == ahd n)

section
variable {w : World} {A : Around} {lo : List Str} {mean : ExcName → Option Value} {mg mb : Str → Option Value} {g : Heap}
local macro_rules | `(tactic| walk_at "subscriptTail Call Constant ref int") => `(tactic| refine Stop.intro ?_)
local macro_rules | `(tactic| walk_at "compareOp Eq int int") => `(tactic| refine Stop.intro ?_)
local macro_rules | `(tactic| walk_at "execs cons Assign cons") => `(tactic| ((with_reducible show wpAny _ _ (execs (Stmt.Assign [Expr.Name (Str.ofString "again") _] _ _ :: _) _) _ _ _); refine Stop.intro ?_))

set_option pp.deepTerms false in
theorem seg_h {gens : Array GenState} {drawn : Drawn} {os : OsState} {tk : Nat} {hp : Heap} {L fa : Addr} {cd : Value} {m : Str → Option Value} {Q : Flow → Shared → Prop} {o0 o1 o2 o3 o4 o5 o6 o7 o8 o9 q78 q71 : Obj} {tl : List (Addr × Obj)} {v0 v1 v2 v3 v4 v9 : Option Value}
   (K : LawK w lo mean mg mb g A L) (X : Led g L hp m ([(L + 1 + 1 + 1 + 1 + 1 + 1 + 1 + 1 + 1 + 1, o0), (L + 1 + 1 + 1 + 1 + 1 + 1 + 1 + 1 + 1, o1), (L + 1 + 1 + 1 + 1 + 1 + 1 + 1 + 1, o2), (L + 1 + 1 + 1 + 1 + 1 + 1 + 1, o3), (L + 1 + 1 + 1 + 1 + 1 + 1, o4), (L + 1 + 1 + 1 + 1 + 1, o5), (L + 1 + 1 + 1 + 1, o6), (L + 1 + 1 + 1, o7), (L + 1 + 1, o8), (L + 1, o9)] : List (Addr × Obj)) q78 q71 tl) {D pA pB pC : Addr} {us uA uB uC : List Value} {ep nA nB nC : Nat}
   (e0 : o0.data = .cell v0) (e1 : o1.data = .cell v1) (e2 : o2.data = .cell v2) (e3 : o3.data = .cell v3) (e4 : o4.data = .cell v4) (e5 : o5.data = .cell (some (.ref pC))) (e6 : o6.data = .cell (some (.ref pB))) (e7 : o7.data = .cell (some (.ref pA))) (e8 : o8.data = .cell (some (.ref D))) (e9 : o9.data = .cell v9)
   (hD : (D, listOf us.toArray ep) ∈ tl) (hus : IntsAre us fibs)
   {pa pb pc pm : List Int} {a0 b0 c0 m0 : Int} (hAm : (pA, listOf uA.toArray nA) ∈ tl) (hiA : IntsAre uA pa) (hBm : (pB, listOf uB.toArray nB) ∈ tl) (hiB : IntsAre uB pb) (hCm : (pC, listOf uC.toArray nC) ∈ tl) (hiC : IntsAre uC pc)
   {a b c mm : Int} {ta tb tc tm t1 t3 t5 t7 : Tok} (ha : m (Str.ofString "a") = some (.int a ta)) (hb : m (Str.ofString "b") = some (.int b tb)) (hc : m (Str.ofString "c") = some (.int c tc)) (hm : m (Str.ofString "m") = some (.int mm tm))
   (h1 : m (Str.ofString "a_ahead") = some (.int (ahd a) t1)) (h3 : m (Str.ofString "b_ahead") = some (.int (ahd b) t3)) (h5 : m (Str.ofString "c_ahead") = some (.int (ahd c) t5)) (h7 : m (Str.ofString "m_ahead") = some (.int (ahd mm) t7))
   (hpm : plc fibs 64 mm = some pm) (fA : FigOk a pa a0) (fB : FigOk b pb b0) (fC : FigOk c pc c0) (fM : FigOk mm pm m0)
   (next : ∀ h' tk' m' o2 q78 q71 tl' pM uM nM v2, Led g L h' m' ([(L + 1 + 1 + 1 + 1 + 1 + 1 + 1 + 1 + 1 + 1, o0), (L + 1 + 1 + 1 + 1 + 1 + 1 + 1 + 1 + 1, o1), (L + 1 + 1 + 1 + 1 + 1 + 1 + 1 + 1, o2), (L + 1 + 1 + 1 + 1 + 1 + 1 + 1, o3), (L + 1 + 1 + 1 + 1 + 1 + 1, o4), (L + 1 + 1 + 1 + 1 + 1, o5), (L + 1 + 1 + 1 + 1, o6), (L + 1 + 1 + 1, o7), (L + 1 + 1, o8), (L + 1, o9)] : List (Addr × Obj)) q78 q71 tl' → o2.data = .cell v2 → (∀ p ∈ tl, p ∈ tl') → (pM, listOf (List.toArray uM) nM) ∈ tl' → IntsAre uM pm → m' (Str.ofString "pm") = some (.ref pM) → (∀ y, y ≠ Str.ofString "pm" → y ≠ Str.ofString "n" → y ≠ Str.ofString "now" → y ≠ Str.ofString "figures" → m' y = m y) →
     wpAny (model prog0 w) A (execs (lawBody.drop 26) (envOfC (Str.ofString "law") lawScope L fa cd)) Q (fun _ _ => False) ⟨h', gens, drawn, tk', os⟩) :
   wpAny (model prog0 w) A (execs (lawBody.drop 24) (envOfC (Str.ofString "law") lawScope L fa cd)) Q (fun _ _ => False) ⟨hp, gens, drawn, tk, os⟩ := by
  conv in execs _ _ =>
    congr
    · whnf
    · arg 2
      whnf
  dsimp only
  have KX := K.B.G.X
  have T := K.B.G.T
  have hL := K.hL
  have hA := K.hA
  have F := X.F
  have N := X.N
  dsimp only [List.cons_append, List.nil_append] at N
  w_top on
  k_steps
  refine Stop.out ?_
  refine places_ok (K.B.G.keeps X.F.keep) (hA.le (by decide)) (X.isList hD) hus (by decide) (f := 64) (by decide) hpm ?_
  rintro pM uM nM s' hpk1 hn1 hp1 hiM
  refine gen_goal fun GX hGX => ?_
  obtain ⟨h1', tk1, rfl, hk1⟩ := hpk1
  refine hGX ?_
  clear hGX
  have X1 := X.keeps hk1 (new := [(pM, listOf uM.toArray nM)]) (fun p hp' => by rcases List.mem_cons.mp hp' with rfl | hp'; exact ⟨hp1, hn1⟩; cases hp')
  clear F N X hk1 hn1 hp1
  have F := X1.F
  have N := X1.N
  have off := X1.off
  have mt1 : ∀ p ∈ tl, p ∈ [(pM, listOf uM.toArray nM)] ++ tl := fun p hp' => .tail _ hp'
  have hMm : (pM, listOf uM.toArray nM) ∈ [(pM, listOf uM.toArray nM)] ++ tl := .head _
  generalize [(pM, listOf uM.toArray nM)] ++ tl = tl1 at X1 N off mt1 hMm
  dsimp only [List.cons_append, List.nil_append] at N
  k_steps
  refine Stop.out ?_
  refine wpAny_For ?_ (fun _ => rfl)
  k_steps
  refine Stop.out ?_
  (with_reducible rename Fr _ _ _ _ => F1); (with_reducible rename News _ _ _ _ => N1)
  rename _ ∧ _ => l5
  revert l5
  rename _ ∧ _ => l4
  revert l4
  rename _ ∧ _ => l3
  revert l3
  rename _ ∧ _ => l2
  revert l2
  rename _ ∧ _ => l1
  intro l2 l3 l4 l5
  rename_i T1 k4 T2 k3 T3 k2 T4 k1 lD k0
  have oT1 : Off L T1 := off_gt hL l1.1
  have oT2 : Off L T2 := off_gt hL l2.2.1
  have oT3 : Off L T3 := off_gt hL l3.2.2.1
  have oT4 : Off L T4 := off_gt hL l4.2.2.2.1
  have olD : Off L lD := off_gt hL l5.2.2.2.2.1
  clear l1 l2 l3 l4 l5
  have N2 := news_perm (xs := [_, _, _, _, _]) (cs := ([(L + 1 + 1 + 1 + 1 + 1 + 1 + 1 + 1 + 1 + 1, o0), (L + 1 + 1 + 1 + 1 + 1 + 1 + 1 + 1 + 1, o1), (L + 1 + 1 + 1 + 1 + 1 + 1 + 1 + 1, o2), (L + 1 + 1 + 1 + 1 + 1 + 1 + 1, o3), (L + 1 + 1 + 1 + 1 + 1 + 1, o4), (L + 1 + 1 + 1 + 1 + 1, o5), (L + 1 + 1 + 1 + 1, o6), (L + 1 + 1 + 1, o7), (L + 1 + 1, o8), (L + 1, o9)] : List (Addr × Obj))) N1
  clear N1
  obtain ⟨NW, hNW⟩ : ∃ NW, NW = [(lD, listOf #[Value.ref T1, .ref T2, .ref T3, .ref T4] 0), (T4, { cls := .type "tuple", data := .seq #[.int mm tm, .ref pM, .int (ahd mm) t7] }), (T3, { cls := .type "tuple", data := .seq #[.int c tc, .ref pC, .int (ahd c) t5] }), (T2, { cls := .type "tuple", data := .seq #[.int b tb, .ref pB, .int (ahd b) t3] }), (T1, { cls := .type "tuple", data := .seq #[.int a ta, .ref pA, .int (ahd a) t1] })] := ⟨_, rfl⟩
  rw [← hNW] at N2
  have X2 : Led g L _ _ ([(L + 1 + 1 + 1 + 1 + 1 + 1 + 1 + 1 + 1 + 1, o0), (L + 1 + 1 + 1 + 1 + 1 + 1 + 1 + 1 + 1, o1), (L + 1 + 1 + 1 + 1 + 1 + 1 + 1 + 1, o2), (L + 1 + 1 + 1 + 1 + 1 + 1 + 1, o3), (L + 1 + 1 + 1 + 1 + 1 + 1, o4), (L + 1 + 1 + 1 + 1 + 1, o5), (L + 1 + 1 + 1 + 1, o6), (L + 1 + 1 + 1, o7), (L + 1 + 1, o8), (L + 1, o9)] : List (Addr × Obj)) q78 q71 (NW ++ tl1) := ⟨F1, N2, fun p hp => by
    rcases List.mem_append.mp hp with hp | hp
    · rw [hNW] at hp
      simp only [List.mem_cons, List.not_mem_nil, or_false] at hp
      rcases hp with rfl | rfl | rfl | rfl | rfl
      · exact olD
      · exact oT4
      · exact oT3
      · exact oT2
      · exact oT1
    · exact off p hp, X1.t78.more fun p hp => List.mem_append_right _ hp, X1.t71.more fun p hp => List.mem_append_right _ hp, X1.cl, X1.ca⟩
  have mt2 : ∀ p ∈ tl1, p ∈ NW ++ tl1 := fun p hp => List.mem_append_right _ hp
  have data : ∀ (k : Nat) v, [Value.ref T1, .ref T2, .ref T3, .ref T4][k]? = some v → ∃ (T : Addr) (n : Int) (tn : Tok) (l : Addr) (tw : Tok) (uu : List Value) (nn : Nat) (ps : List Int) (p0 : Int), v = .ref T ∧ (T, { cls := .type "tuple", data := .seq #[.int n tn, .ref l, .int (ahd n) tw] }) ∈ NW ++ tl1 ∧ (l, listOf uu.toArray nn) ∈ NW ++ tl1 ∧ IntsAre uu ps ∧ FigOk n ps p0 := by
    intro k v hv
    rw [hNW]
    have hk : k < 4 := (List.getElem?_eq_some_iff.mp hv).1
    rcases (show k = 0 ∨ k = 1 ∨ k = 2 ∨ k = 3 by omega) with rfl | rfl | rfl | rfl
    · cases hv
      exact ⟨_, _, _, _, _, _, _, _, _, rfl, List.mem_append_left _ (.tail _ (.tail _ (.tail _ (.tail _ (.head _))))), List.mem_append_right _ (mt1 _ hAm), hiA, fA⟩
    · cases hv
      exact ⟨_, _, _, _, _, _, _, _, _, rfl, List.mem_append_left _ (.tail _ (.tail _ (.tail _ (.head _)))), List.mem_append_right _ (mt1 _ hBm), hiB, fB⟩
    · cases hv
      exact ⟨_, _, _, _, _, _, _, _, _, rfl, List.mem_append_left _ (.tail _ (.tail _ (.head _))), List.mem_append_right _ (mt1 _ hCm), hiC, fC⟩
    · cases hv
      exact ⟨_, _, _, _, _, _, _, _, _, rfl, List.mem_append_left _ (.tail _ (.head _)), List.mem_append_right _ hMm, hiM, fM⟩
  have hl0 : ∃ n, (lD, listOf [Value.ref T1, .ref T2, .ref T3, .ref T4].toArray n) ∈ NW ++ tl1 := by
    rw [hNW]
    exact ⟨_, .head _⟩
  obtain ⟨nl, hl0⟩ := hl0
  have hD2 := mt2 _ (mt1 _ hD)
  have hM2 := mt2 _ hMm
  have mt3 : ∀ p ∈ tl, p ∈ NW ++ tl1 := fun p hp => mt2 p (mt1 p hp)
  generalize NW ++ tl1 = tl2 at X2 N2 mt2 data hl0 hD2 hM2 mt3
  clear hNW
  refine for_list2 hA.hh X2.F X2.N (vs := [.ref T1, .ref T2, .ref T3, .ref T4]) (fun k m' news' => ∃ (o2' : Obj) (v2' : Option Value) (q78' q71' : Obj) (tl' : List (Addr × Obj)), news' = ([(L + 1 + 1 + 1 + 1 + 1 + 1 + 1 + 1 + 1 + 1, o0), (L + 1 + 1 + 1 + 1 + 1 + 1 + 1 + 1 + 1, o1), (L + 1 + 1 + 1 + 1 + 1 + 1 + 1 + 1, o2'), (L + 1 + 1 + 1 + 1 + 1 + 1 + 1, o3), (L + 1 + 1 + 1 + 1 + 1 + 1, o4), (L + 1 + 1 + 1 + 1 + 1, o5), (L + 1 + 1 + 1 + 1, o6), (L + 1 + 1 + 1, o7), (L + 1 + 1, o8), (L + 1, o9)] : List (Addr × Obj)) ++ (78, q78') :: (71, q71') :: tl' ∧ o2'.data = .cell v2' ∧ (∀ p ∈ tl', Off L p.1) ∧ TT78 g tl' q78' ∧ TT71 g tl' q71' ∧ (∀ p ∈ tl2, p ∈ tl') ∧ m' (Str.ofString "pm") = some (.ref pM) ∧ ∀ y, y ≠ Str.ofString "pm" → y ≠ Str.ofString "n" → y ≠ Str.ofString "now" → y ≠ Str.ofString "figures" → m' y = m y) ?_ ⟨o2, _, _, _, tl2, rfl, e2, X2.off, X2.t78, X2.t71, fun _ h => h, rfl, fun y h1 _ _ _ => by rw [if_neg h1]⟩ ?_ ?_
  · rintro k m' news' h' ⟨o2', v2', q78', q71', tl', rfl, _, _, _, _, mt, _⟩ F N
    exact ⟨_, (N _ (List.mem_append_right _ (.tail _ (.tail _ (mt _ hl0))))).1, rfl, nl, rfl⟩
  · rintro k v m' news' h' tk' I o hv hpk2 F N hne ⟨zz, hoI⟩
    refine gen_goal fun GX hGX => ?_
    obtain ⟨o2', v2', q78', q71', tl', rfl, e2, off', t78, t71, mt, hpmm, hm'⟩ := hpk2
    refine hGX ?_
    clear hGX
    refine gen_goal fun GX hGX => ?_
    obtain ⟨T, n, tn, l, tw, uu, nn, ps, p0, rfl, hT, hl, hiu, fg⟩ := data k v hv
    refine hGX ?_
    clear hGX
    have Y1 : LedI g L h' m' ([(L + 1 + 1 + 1 + 1 + 1 + 1 + 1 + 1 + 1 + 1, o0), (L + 1 + 1 + 1 + 1 + 1 + 1 + 1 + 1 + 1, o1), (L + 1 + 1 + 1 + 1 + 1 + 1 + 1 + 1, o2'), (L + 1 + 1 + 1 + 1 + 1 + 1 + 1, o3), (L + 1 + 1 + 1 + 1 + 1 + 1, o4), (L + 1 + 1 + 1 + 1 + 1, o5), (L + 1 + 1 + 1 + 1, o6), (L + 1 + 1 + 1, o7), (L + 1 + 1, o8), (L + 1, o9)] : List (Addr × Obj)) q78' q71' tl' I o := ⟨⟨F, News.drop N, off', t78, t71, c10_cl e0 e1 e2 e3 e4 e5 e6 e7 e8 e9, c10_has⟩, (N _ (.head _)).1, (N _ (.head _)).2, hne, fun vs t q h1 h2 => by rw [hoI] at h1; cases h1; cases h2⟩
    have hI := Y1.offI
    have hTup : h'.IsTuple T #[.int n tn, .ref l, .int (ahd n) tw] := ⟨_, (N _ (.tail _ (List.mem_append_right _ (.tail _ (.tail _ (mt _ hT)))))).1, rfl, _, rfl⟩
    dsimp only [List.cons_append, List.nil_append] at N
    k_steps
    refine Stop.out ?_
    refine unpackN_ F N hTup hA.hh rfl rfl fun h4 F4 N4 => ?_
    clear F N hTup
    k_steps
    (with_reducible rename Fr _ _ _ _ => F5); (with_reducible rename News _ _ _ _ => N5)
    clear e2
    rename Obj.data _ = Data.cell (some (Value.ref l)) => e2
    obtain ⟨o2n, q⟩ := name_data e2
    subst q
    have Y2 : LedI g L _ _ ([(L + 1 + 1 + 1 + 1 + 1 + 1 + 1 + 1 + 1 + 1, o0), (L + 1 + 1 + 1 + 1 + 1 + 1 + 1 + 1 + 1, o1), (L + 1 + 1 + 1 + 1 + 1 + 1 + 1 + 1, o2n), (L + 1 + 1 + 1 + 1 + 1 + 1 + 1, o3), (L + 1 + 1 + 1 + 1 + 1 + 1, o4), (L + 1 + 1 + 1 + 1 + 1, o5), (L + 1 + 1 + 1 + 1, o6), (L + 1 + 1 + 1, o7), (L + 1 + 1, o8), (L + 1, o9)] : List (Addr × Obj)) q78' q71' tl' I o := Y1.re F5 N5 (c10_cl e0 e1 e2 e3 e4 e5 e6 e7 e8 e9) c10_has rfl
    clear Y1
    have G1 : Gd w lo mean mg mb _ := K.B.G.keeps F5.keep
    have c2 := cell_of (c := L + 1 + 1 + 1 + 1 + 1 + 1 + 1 + 1) N5 e2 (by k_mem)
    have hlL := Y2.X.isList (mt _ hl)
    obtain ⟨tp, hxp⟩ := ints_get hiu fg.head
    have hp0 := fg.bnd
    refine Stop.out ?_
    refine lc_range (a := p0) (c := -1) (n := (p0 - 1).toNat) (by decide) (fun i y => ∃ t, y = .str (if (p0 - (i : Int)) ∈ ps then Str.ofString "1" else Str.ofString "0") t) hA.hh F5 N5 (by omega) rfl (by decide) rfl (by decide) rfl ?_ ?_ ?_ (fun _ => rfl)
    · k_steps
      refine Stop.out ?_
      refine sub_at hlL (by decide) (by decide) (x := .int p0 tp) (by simpa using hxp) ?_
      k_steps
      refine Stop.out ?_
      have hr := range_down p0.toNat (by omega) (by omega)
      have e9 : (p0.toNat : Int) = p0 := by omega
      rw [e9] at hr
      refine call_range_3 (by decide) ?_
      exact ⟨_, _, _, _, _, _, _, rfl, rfl, Heap.get?_push_size _ rfl, hr.1, hr.2, fun b o e => Heap.get?_push_of_some _ e, by rw [Heap.size_push]; exact Nat.le_succ _⟩
    · intro C i t s₃ m₃ hi F3 hm3
      obtain ⟨h3', gens3, drawn3, toks3, os3⟩ := s₃
      dsimp only at *
      refine wpAny_mono (Q := EltEnd (fun y => ∃ t, y = .str (if (p0 - (i : Int)) ∈ ps then Str.ofString "1" else Str.ofString "0") t) ⟨h3', gens3, drawn3, toks3, os3⟩) ?_ (fun _ _ h => h) fun _ _ e => e
      have ei : p0 + (i : Int) * -1 = p0 - (i : Int) := by omega
      rw [ei] at hm3
      k_steps
      refine Stop.out ?_
      refine in_list_ints (IsList.keepsAll hlL F3.keep) hiu ?_
      rw [mem_any]
      by_cases hin : (p0 - (i : Int)) ∈ ps
      · rw [decide_eq_true hin]
        k_steps
        exact ⟨⟨_, by rw [if_pos hin]⟩, _, _, rfl, fun _ _ e => e⟩
      · rw [decide_eq_false hin]
        k_steps
        exact ⟨⟨_, by rw [if_neg hin]⟩, _, _, rfl, fun _ _ e => e⟩
    · intro D9 h9 tk9 ys9 n9 F9 N9 hne9 hrow
      have Y3 := Y2.sink F9 N9 hne9
      obtain ⟨uF, hu1, hu2⟩ := row_strs hrow
      have hu3 : ys9 = (strValues uF).toArray := by rw [← hu1]
      subst hu3
      clear F9 N9 hne9 F5 N5 Y2 G1 c2 hlL
      have F := Y3.X.F
      have N := Y3.N
      dsimp only [List.cons_append, List.nil_append] at N
      k_steps
      refine Stop.out ?_
      refine join_at F N (.tail _ (List.mem_append_right (as := ([(L + 1 + 1 + 1 + 1 + 1 + 1 + 1 + 1 + 1 + 1, o0), (L + 1 + 1 + 1 + 1 + 1 + 1 + 1 + 1 + 1, o1), (L + 1 + 1 + 1 + 1 + 1 + 1 + 1 + 1, o2n), (L + 1 + 1 + 1 + 1 + 1 + 1 + 1, o3), (L + 1 + 1 + 1 + 1 + 1 + 1, o4), (L + 1 + 1 + 1 + 1 + 1, o5), (L + 1 + 1 + 1 + 1, o6), (L + 1 + 1 + 1, o7), (L + 1 + 1, o8), (L + 1, o9)] : List (Addr × Obj))) (.tail _ (.tail _ (.head _))))) hu2 ?_ fun t' k' => ?_
      · have e0 : (Str.ofString "").length = 0 := by decide +kernel
        have := ones_len (p0 - 1).toNat (fun (i : Nat) => if (p0 - (i : Int)) ∈ ps then Str.ofString "1" else Str.ofString "0") (fun i => by
          split <;> decide +kernel)
        rw [e0]
        omega
      rw [figs_text]
      have hxl : (mkS (figs ps p0)).length ≤ 64 ∧ 1 ≤ (mkS (figs ps p0)).length := by
        show (figs ps p0).toArray.size ≤ 64 ∧ 1 ≤ (figs ps p0).toArray.size
        rw [List.size_toArray, figs, List.length_map, List.length_range]
        omega
      k_steps
      (with_reducible rename Fr _ _ _ _ => F6); (with_reducible rename News _ _ _ _ => N6)
      have Y4 : LedI g L _ _ ([(L + 1 + 1 + 1 + 1 + 1 + 1 + 1 + 1 + 1 + 1, o0), (L + 1 + 1 + 1 + 1 + 1 + 1 + 1 + 1 + 1, o1), (L + 1 + 1 + 1 + 1 + 1 + 1 + 1 + 1, o2n), (L + 1 + 1 + 1 + 1 + 1 + 1 + 1, o3), (L + 1 + 1 + 1 + 1 + 1 + 1, o4), (L + 1 + 1 + 1 + 1 + 1, o5), (L + 1 + 1 + 1 + 1, o6), (L + 1 + 1 + 1, o7), (L + 1 + 1, o8), (L + 1, o9)] : List (Addr × Obj)) q78' q71' ((D9, listOf (strValues uF).toArray n9) :: tl') I o := Y3.re F6 N6 (c10_cl e0 e1 e2 e3 e4 e5 e6 e7 e8 e9) c10_has rfl
      clear Y3 F6 N6
      refine Stop.out ?_
      refine em11_ok (K.B.G.keeps Y4.X.F.keep) (hA.le (by decide)) hxl.1 fg.no11 ?_
      rintro s' hpk3
      refine gen_goal fun GX hGX => ?_
      obtain ⟨h10, tk10, rfl, hk10⟩ := hpk3
      refine hGX ?_
      clear hGX
      have Y5 := Y4.keeps hk10 (new := []) (fun p hp' => by cases hp')
      clear Y4 hk10
      have F := Y5.X.F
      have N := Y5.N
      dsimp only [List.cons_append, List.nil_append] at N
      k_steps
      refine Stop.out ?_
      refine em1_ok (K.B.G.keeps Y5.X.F.keep) (hA.le (by decide)) hxl.1 hxl.2 ?_
      rintro s' hpk4
      refine gen_goal fun GX hGX => ?_
      obtain ⟨h11, tk11, rfl, hk11⟩ := hpk4
      refine hGX ?_
      clear hGX
      have Y6 := Y5.keeps hk11 (new := []) (fun p hp' => by cases hp')
      clear Y5 hk11 F N
      have F := Y6.X.F
      have N := Y6.N
      dsimp only [List.cons_append, List.nil_append] at N
      rw [fg.ends]
      k_steps
      refine Stop.out ?_
      have hnum := fg.num
      refine ahead_ok K.B Y6.X.F.keep Y6.X.T71 Y6.X.T78 (hA.le (by decide)) (n := n + 1) (by omega) (Y6.X.isList (.tail _ (mt _ hD2))) hus rfl rfl rfl ?_
      rintro E ti ui s' hpk5 h71 h78 hp12 hn12
      refine gen_goal fun GX hGX => ?_
      obtain ⟨h12, tk12, rfl, hk12⟩ := hpk5
      refine hGX ?_
      clear hGX
      obtain ⟨q8, q7, tl3, Y7⟩ := Y6.but hL K.B.n71 K.B.n78 hk12 h71 h78 (new := [(E, pairT (ahd (n + 1)) ti (rst (n + 1)) ui)]) (fun p hp' => by
        rcases List.mem_cons.mp hp' with rfl | hp'
        · exact ⟨hp12, hn12⟩
        · cases hp')
      have mt5 : ∀ p ∈ tl2, p ∈ tl3 ++ ([(E, pairT (ahd (n + 1)) ti (rst (n + 1)) ui)] ++ ([] ++ ([] ++ (D9, listOf (strValues uF).toArray n9) :: tl'))) := fun p hp => List.mem_append_right _ (.tail _ (.tail _ (mt p hp)))
      have hTup : h12.IsTuple E #[.int (ahd (n + 1)) ti, .int (rst (n + 1)) ui] := ⟨_, hp12, rfl, _, rfl⟩
      clear Y6 F N hk12 h71 h78 hp12 hn12
      have F := Y7.X.F
      have N := Y7.N
      generalize tl3 ++ ([(E, pairT (ahd (n + 1)) ti (rst (n + 1)) ui)] ++ ([] ++ ([] ++ (D9, listOf (strValues uF).toArray n9) :: tl'))) = tl5 at Y7 N mt5
      dsimp only [List.cons_append, List.nil_append] at N
      k_steps
      refine Stop.out ?_
      refine item_tupleT (l := [.int (ahd (n + 1)) ti, .int (rst (n + 1)) ui]) hTup (by decide) (by decide) (j := 0) rfl rfl ?_
      generalize hbb : (ahd (n + 1) == ahd n) = bb
      k_steps
      refine Stop.out ?_
      refine eq_int ?_
      rw [hbb]
      k_steps
      refine Stop.out ?_
      refine ne_bool ?_
      rw [bne_self_eq_false]
      k_steps
      refine ⟨_, ([(L + 1 + 1 + 1 + 1 + 1 + 1 + 1 + 1 + 1 + 1, o0), (L + 1 + 1 + 1 + 1 + 1 + 1 + 1 + 1 + 1, o1), (L + 1 + 1 + 1 + 1 + 1 + 1 + 1 + 1, o2n), (L + 1 + 1 + 1 + 1 + 1 + 1 + 1, o3), (L + 1 + 1 + 1 + 1 + 1 + 1, o4), (L + 1 + 1 + 1 + 1 + 1, o5), (L + 1 + 1 + 1 + 1, o6), (L + 1 + 1 + 1, o7), (L + 1 + 1, o8), (L + 1, o9)] : List (Addr × Obj)) ++ (78, q8) :: (71, q7) :: tl5, _, _, rfl, ⟨o2n, _, q8, q7, tl5, rfl, e2, Y7.X.off, Y7.X.t78, Y7.X.t71, mt5, ?_, ?_⟩, F, Y7.N, Y7.nI⟩
      · rw [if_neg (by decide +kernel), if_neg (by decide +kernel), if_neg (by decide +kernel)]
        exact hpmm
      · intro y y1 y2 y3 y4
        rw [if_neg y4, if_neg y3, if_neg y2]
        exact hm' y y1 y2 y3 y4
  · rintro m' news' h' tk' hpk6 F N
    refine gen_goal fun GX hGX => ?_
    obtain ⟨o2', v2', q78', q71', tl', rfl, e2, off', t78, t71, mt, hpmm, hm'⟩ := hpk6
    refine hGX ?_
    clear hGX
    k_steps
    refine Stop.out ?_
    exact next _ _ _ o2' q78' q71' tl' pM uM nM _ ⟨F, N, off', t78, t71, c10_cl e0 e1 e2 e3 e4 e5 e6 e7 e8 e9, c10_has⟩ e2 (fun p hp' => mt _ (mt3 p hp')) (mt _ hM2) hiM hpmm hm'
end
end Mine
end

section
open PySem PySem.W PySem.Calls PyProof.Rows
set_option Elab.async false
namespace Mine
set_option maxRecDepth 100000
set_option maxHeartbeats 8000000

theorem fillW10 (h : PySem.Challenge.rw_ta0035_01.about = [] → hd.heap_39 = hd.heap_39) : (PySem.Challenge.rw_ta0035_01.about = [] → hd.heap_39 = hd.heap_39) := by
  k_fill
  exact h

noncomputable def rightL (pa pb pc : List Int) : List Int := (pb.map fun j => (pc.map fun k => pa.map fun d => d + (j + k)).flatten).flatten

section
variable {w : World} {A : Around} {lo : List Str} {mean : ExcName → Option Value} {mg mb : Str → Option Value} {g : Heap}
local macro_rules | `(tactic| walk_at "execs cons") => `(tactic| ((with_reducible show wpAny _ _ (execs (Stmt.For _ _ _ _ _ :: _) _) _ _ _); refine Stop.intro ?_))

set_option pp.deepTerms false in
theorem seg_i {gens : Array GenState} {drawn : Drawn} {os : OsState} {tk : Nat} {hp : Heap} {L fa : Addr} {cd : Value} {m : Str → Option Value} {Q : Flow → Shared → Prop} {o0 o1 o2 o3 o4 o5 o6 o7 o8 o9 q78 q71 : Obj} {tl : List (Addr × Obj)} {v0 v1 v2 v3 v7 v8 v9 : Option Value}
   (K : LawK w lo mean mg mb g A L) (X : Led g L hp m ([(L + 1 + 1 + 1 + 1 + 1 + 1 + 1 + 1 + 1 + 1, o0), (L + 1 + 1 + 1 + 1 + 1 + 1 + 1 + 1 + 1, o1), (L + 1 + 1 + 1 + 1 + 1 + 1 + 1 + 1, o2), (L + 1 + 1 + 1 + 1 + 1 + 1 + 1, o3), (L + 1 + 1 + 1 + 1 + 1 + 1, o4), (L + 1 + 1 + 1 + 1 + 1, o5), (L + 1 + 1 + 1 + 1, o6), (L + 1 + 1 + 1, o7), (L + 1 + 1, o8), (L + 1, o9)] : List (Addr × Obj)) q78 q71 tl) {pB pC hH pM : Addr} {uB uC uM : List Value} {nB nC nH nM : Nat} {iH : Array Value} {rH : List (Addr × Obj)}
   (e0 : o0.data = .cell v0) (e1 : o1.data = .cell none) (e2 : o2.data = .cell v2) (e3 : o3.data = .cell v3) (e4 : o4.data = .cell (some (.ref hH))) (e5 : o5.data = .cell (some (.ref pC))) (e6 : o6.data = .cell (some (.ref pB))) (e7 : o7.data = .cell v7) (e8 : o8.data = .cell v8) (e9 : o9.data = .cell v9)
   {pa pb pc pm : List Int} {pc0 kk : Int} (hBm : (pB, listOf uB.toArray nB) ∈ tl) (hiB : IntsAre uB pb) (hCm : (pC, listOf uC.toArray nC) ∈ tl) (hiC : IntsAre uC pc) (hMm : (pM, listOf uM.toArray nM) ∈ tl) (hiM : IntsAre uM pm)
   (hHm : (hH, listOf iH nH) ∈ tl) (hrH : ∀ p ∈ rH, p ∈ tl) (hsH : iH.size = kk.toNat + 1) (hHI : HandsIn rH iH pa)
   (hpc0 : pc[0]? = some pc0) (hc0 : 0 ≤ pc0 ∧ pc0 ≤ 40) (hpmn : pm ≠ []) (hpml : pm.length ≤ 64) (hpmb : ∀ n ∈ pm, 1 ≤ n ∧ n ≤ 40) (hpcb : ∀ k ∈ pc, 0 ≤ k ∧ k ≤ pc0) (hpab : ∀ n ∈ pa, 0 ≤ n ∧ n ≤ 40) (hkk : kk ≤ 40) (hpbc : ∀ j ∈ pb, ∀ k ∈ pc, 0 ≤ j ∧ 0 ≤ k ∧ j + k ≤ kk)
   (hll : (heardL pm pc).length ≤ 4096) (hrl : (rightL pa pb pc).length ≤ 4096)
   {te : Tok} {e : Str} (he : m (Str.ofString "end") = some (.str e te)) (hend : IsEnd e.cps.toList) (hpm : m (Str.ofString "pm") = some (.ref pM))
   (next : ∀ h' tk' m' o1 tl' lL uL nL lR uR nR v1, Led g L h' m' ([(L + 1 + 1 + 1 + 1 + 1 + 1 + 1 + 1 + 1 + 1, o0), (L + 1 + 1 + 1 + 1 + 1 + 1 + 1 + 1 + 1, o1), (L + 1 + 1 + 1 + 1 + 1 + 1 + 1 + 1, o2), (L + 1 + 1 + 1 + 1 + 1 + 1 + 1, o3), (L + 1 + 1 + 1 + 1 + 1 + 1, o4), (L + 1 + 1 + 1 + 1 + 1, o5), (L + 1 + 1 + 1 + 1, o6), (L + 1 + 1 + 1, o7), (L + 1 + 1, o8), (L + 1, o9)] : List (Addr × Obj)) q78 q71 tl' → o1.data = .cell v1 → (∀ p ∈ tl, p ∈ tl') → (lL, listOf (List.toArray uL) nL) ∈ tl' → IntsAre uL (heardL pm pc) → (lR, listOf (List.toArray uR) nR) ∈ tl' → IntsAre uR (rightL pa pb pc) → m' (Str.ofString "left") = some (.ref lL) → m' (Str.ofString "right") = some (.ref lR) →
     (∀ y, y ≠ Str.ofString "left" → y ≠ Str.ofString "right" → m' y = m y) →
     wpAny (model prog0 w) A (execs (lawBody.drop 30) (envOfC (Str.ofString "law") lawScope L fa cd)) Q (fun _ _ => False) ⟨h', gens, drawn, tk', os⟩) :
   wpAny (model prog0 w) A (execs (lawBody.drop 26) (envOfC (Str.ofString "law") lawScope L fa cd)) Q (fun _ _ => False) ⟨hp, gens, drawn, tk, os⟩ := by
  conv in execs _ _ =>
    congr
    · whnf
    · arg 2
      whnf
  dsimp only
  have KX := K.B.G.X
  have T := K.B.G.T
  have hL := K.hL
  have hA := K.hA
  have F := X.F
  have N := X.N
  have off := X.off
  dsimp only [List.cons_append, List.nil_append] at N
  obtain ⟨tC, hxC⟩ := ints_get hiC hpc0
  w_top on
  k_steps
  refine Stop.out ?_
  refine sub_at (X.isList hCm) (by decide) (by decide) (x := .int pc0 tC) (by simpa using hxC) ?_
  k_steps
  refine Stop.out ?_
  refine hands_ok (K.B.G.keeps X.F.keep) (hA.le (by decide)) (X.isList hMm) hiM hpml hpmn hend hc0.1 hc0.2 hpmb ?_
  rintro hG iG nG rG s' hpk1 hmG hsG hG1
  refine gen_goal fun GX hGX => ?_
  obtain ⟨h4, tk4, rfl, hk4⟩ := hpk1
  refine hGX ?_
  clear hGX
  have X7 := X.keeps hk4 hmG
  clear X hk4 hmG F N off
  have F := X7.F
  have N := X7.N
  have off := X7.off
  have mt : ∀ p ∈ tl, p ∈ (hG, listOf iG nG) :: rG ++ tl := fun p hp => List.mem_append_right _ hp
  have mG : (hG, listOf iG nG) ∈ (hG, listOf iG nG) :: rG ++ tl := .head _
  have mrG : ∀ p ∈ rG, p ∈ (hG, listOf iG nG) :: rG ++ tl := fun p hp => .tail _ (List.mem_append_left _ hp)
  generalize (hG, listOf iG nG) :: rG ++ tl = tl1 at X7 N off mt mG mrG
  dsimp only [List.cons_append, List.nil_append] at N
  k_steps
  (with_reducible rename Fr _ _ _ _ => F2); (with_reducible rename News _ _ _ _ => N2)
  clear e1
  rename Obj.data _ = Data.cell (some (Value.ref hG)) => e1
  obtain ⟨o1', q⟩ := name_data e1
  subst q
  have X8 : Led g L _ m ([(L + 1 + 1 + 1 + 1 + 1 + 1 + 1 + 1 + 1 + 1, o0), (L + 1 + 1 + 1 + 1 + 1 + 1 + 1 + 1 + 1, o1'), (L + 1 + 1 + 1 + 1 + 1 + 1 + 1 + 1, o2), (L + 1 + 1 + 1 + 1 + 1 + 1 + 1, o3), (L + 1 + 1 + 1 + 1 + 1 + 1, o4), (L + 1 + 1 + 1 + 1 + 1, o5), (L + 1 + 1 + 1 + 1, o6), (L + 1 + 1 + 1, o7), (L + 1 + 1, o8), (L + 1, o9)] : List (Addr × Obj)) q78 q71 tl1 := ⟨F2, N2, off, X7.t78, X7.t71, c10_cl e0 e1 e2 e3 e4 e5 e6 e7 e8 e9, c10_has⟩
  clear X7 off
  refine Stop.out ?_
  refine sub_at (X8.isList (mt _ hCm)) (by decide) (by decide) (x := .int pc0 tC) (by simpa using hxC) ?_
  k_steps
  refine Stop.out ?_
  refine rows_ok (K.B.G.keeps X8.F.keep) (hA.le (by decide)) (X8.isList (mt _ hMm)) hiM hpml hc0.1 hc0.2 hpmb ?_
  rintro hR iR nR rR s' hpk2 hmR hsR hR1
  refine gen_goal fun GX hGX => ?_
  obtain ⟨h5, tk5, rfl, hk5⟩ := hpk2
  refine hGX ?_
  clear hGX
  have X9 := X8.keeps hk5 hmR
  clear X8 hk5 F2 N2
  dsimp only at hmR X9
  have F := X9.F
  have N := X9.N
  have off := X9.off
  have mt2 : ∀ p ∈ tl1, p ∈ (hR, listOf iR nR) :: rR ++ tl1 := fun p hp => List.mem_append_right _ hp
  generalize (hR, listOf iR nR) :: rR ++ tl1 = tl2 at X9 N off mt2
  dsimp only [List.cons_append, List.nil_append] at N
  k_steps
  refine Stop.out ?_
  refine ne_hands (K := pc0.toNat + 1) (X9.get (p := (hG, listOf iG nG)) (mt2 _ mG)) (hmR _ (.head _)).1 (fun p hp' => X9.get (mt2 _ (mrG p hp'))) (fun p hp' => (hmR p (.tail _ hp')).1) hG1 hR1 hsG hsR (by have := hA.un; show _ < 9900; omega) ?_
  k_steps
  refine Stop.out ?_
  refine wpAny_execs_cons ?_
  clear hmR hR1 hsR
  have G1 : Gd w lo mean mg mb _ := K.B.G.keeps F.keep
  have c5 := cell_of (c := L + 1 + 1 + 1 + 1 + 1) N e5 (by k_mem)
  have c1 := cell_of (c := L + 1 + 1 + 1 + 1 + 1 + 1 + 1 + 1 + 1) N e1 (by k_mem)
  refine lc_multi_assign (ns := heardL pm pc) F N ⟨_, X9.isList (mt2 _ (mt _ hCm))⟩ ⟨_, _, rfl⟩ rfl rfl (by decide) (by decide) rfl rfl (by omega) rfl rfl ?_ ?_ ?_ (fun _ => rfl)
  · k_steps
  · intro C D
    refine lvl_mid (nss := pc.map fun j => pm.map fun d => d + j) hA.hh rfl rfl rfl rfl rfl (X9.isList (mt2 _ (mt _ hCm))) (by rw [List.size_toArray, List.length_map]; exact IntsAre.length hiC) (fun _ _ _ => trivial) (fun _ => rfl) ?_
    intro i v ns hv hns
    obtain ⟨j, hj, rfl⟩ := Option.map_eq_some_iff.mp ((List.getElem?_map ..).symm.trans hns)
    obtain ⟨tj, hvj⟩ := ints_get hiC hj
    have : v = .int j tj := by
      rw [List.getElem?_toArray, hvj] at hv
      exact (Option.some.inj hv).symm
    subst this
    have hj1 := hpcb j (List.mem_of_getElem? hj)
    obtain ⟨b2, us2, n2, h1, h2, h3⟩ := hand_at hG1 hj1.1 (by rw [hsG]; omega)
    refine ⟨b2, _, X9.isList (mt2 _ (mrG _ h2)), ?_, ?_⟩
    · intro h m2 tk2 F2 _ hm2
      have KX2 := G1.X
      k_steps
      refine Stop.out ?_
      refine sub_at (IsList.keepsAll (X9.isList (mt2 _ mG)) F2.keep) hj1.1 (by omega) h1 ?_
      exact ⟨rfl, _, rfl⟩
    · refine lvl_last hA.hh rfl rfl rfl rfl rfl (X9.isList (mt2 _ (mrG _ h2))) ?_ ?_ ?_
      · have := congrArg List.length h3
        rw [List.length_map, rowsAt, List.length_map] at this
        rw [List.size_toArray, strValues, List.length_map, List.length_map, this]
      · intro m3 v3 h
        refine ⟨trivial, ?_⟩
        rw [← h.2]
        rfl
      · intro i3 v3 n3 s3 m3 hv3 hn3 F3 hm3 hmx
        have e9 : (fun d => d + j : Int → Int) = fun d => d + (j.toNat : Int) := by funext d; omega
        rw [e9] at hn3
        obtain ⟨x, tx, rfl, rfl, hxl⟩ := str_at h3 (fun n hn => ⟨by have := hpmb n hn; omega, (hpmb n hn).2⟩) (by omega) hv3 hn3
        obtain ⟨h3, gens3, drawn3, toks3, os3⟩ := s3
        dsimp only at *
        k_steps
        exact ⟨_, _, rfl, fun _ _ e => e⟩
  · intro lL h6 tk6 ysL nL F6 N6 hneL hiL
    obtain ⟨ysL⟩ := ysL
    have Xa := X9.sink F6 N6 hneL
    clear F6 N6 hneL F N off G1 c5 c1
    have mt3 : ∀ p ∈ tl2, p ∈ (lL, listOf (List.toArray ysL) nL) :: tl2 := fun p hp => .tail _ hp
    have mL : (lL, listOf (List.toArray ysL) nL) ∈ (lL, listOf (List.toArray ysL) nL) :: tl2 := .head _
    generalize (lL, listOf (List.toArray ysL) nL) :: tl2 = tl3 at Xa mt3 mL
    have F := Xa.F
    have N := Xa.N
    dsimp only [List.cons_append, List.nil_append] at N
    k_steps
    refine Stop.out ?_
    refine wpAny_execs_cons ?_
    have G1 : Gd w lo mean mg mb _ := K.B.G.keeps F.keep
    have c6 := cell_of (c := L + 1 + 1 + 1 + 1) N e6 (by k_mem)
    have c5 := cell_of (c := L + 1 + 1 + 1 + 1 + 1) N e5 (by k_mem)
    have c4 := cell_of (c := L + 1 + 1 + 1 + 1 + 1 + 1) N e4 (by k_mem)
    have mtA : ∀ p ∈ tl, p ∈ tl3 := fun p hp => mt3 p (mt2 p (mt p hp))
    refine lc_multi_assign (ns := rightL pa pb pc) F N ⟨_, Xa.isList (mtA _ hBm)⟩ ⟨_, _, rfl⟩ rfl rfl (by decide) (by decide) rfl rfl (by omega) rfl rfl ?_ ?_ ?_ (fun _ => rfl)
    · k_steps
    · intro C D
      refine lvl_mid (nss := pb.map fun j => (pc.map fun k => pa.map fun d => d + (j + k)).flatten) hA.hh rfl rfl rfl rfl rfl (Xa.isList (mtA _ hBm)) (by rw [List.size_toArray, List.length_map]; exact IntsAre.length hiB) (fun _ _ _ => trivial) (fun _ => rfl) ?_
      intro i v ns hv hns
      obtain ⟨j, hj, rfl⟩ := Option.map_eq_some_iff.mp ((List.getElem?_map ..).symm.trans hns)
      obtain ⟨tj, hvj⟩ := ints_get hiB hj
      have : v = .int j tj := by
        rw [List.getElem?_toArray, hvj] at hv
        exact (Option.some.inj hv).symm
      subst this
      have hjm := List.mem_of_getElem? hj
      refine ⟨pC, _, Xa.isList (mtA _ hCm), ?_, ?_⟩
      · intro h m2 tk2 F2 _ hm2
        have KX2 := G1.X
        k_steps
      · refine lvl_mid (nss := pc.map fun k => pa.map fun d => d + (j + k)) hA.hh rfl rfl rfl rfl rfl (Xa.isList (mtA _ hCm)) (by rw [List.size_toArray, List.length_map]; exact IntsAre.length hiC) (fun m3 v3 h => ⟨trivial, by rw [← h.2]; rfl⟩) (fun _ => rfl) ?_
        intro i2 v2 ns2 hv2 hns2
        obtain ⟨k, hk, rfl⟩ := Option.map_eq_some_iff.mp ((List.getElem?_map ..).symm.trans hns2)
        obtain ⟨tk', hvk⟩ := ints_get hiC hk
        have : v2 = .int k tk' := by
          rw [List.getElem?_toArray, hvk] at hv2
          exact (Option.some.inj hv2).symm
        subst this
        have hjk := hpbc j hjm k (List.mem_of_getElem? hk)
        obtain ⟨b2, us2, n2, h1, h2, h3⟩ := hand_at hHI (j := j + k) (by omega) (by rw [hsH]; omega)
        refine ⟨b2, _, Xa.isList (mtA _ (hrH _ h2)), ?_, ?_⟩
        · intro h m2 tk2 F2 hK2 hm2
          have hmj := hK2.2
          have KX2 := G1.X
          k_steps
          refine Stop.out ?_
          refine sub_at (IsList.keepsAll (Xa.isList (mtA _ hHm)) F2.keep) (by omega) (by omega) h1 ?_
          exact ⟨rfl, _, rfl⟩
        · refine lvl_last hA.hh rfl rfl rfl rfl rfl (Xa.isList (mtA _ (hrH _ h2))) ?_ ?_ ?_
          · have := congrArg List.length h3
            rw [List.length_map, rowsAt, List.length_map] at this
            rw [List.size_toArray, strValues, List.length_map, List.length_map, this]
          · intro m3 v3 h
            refine ⟨⟨trivial, ?_⟩, ?_⟩
            · rw [← h.1.2]; rfl
            · rw [← h.2]; rfl
          · intro i3 v3 n3 s3 m3 hv3 hn3 F3 hm3 hmx
            have e9 : (fun d => d + (j + k) : Int → Int) = fun d => d + ((j + k).toNat : Int) := by funext d; omega
            rw [e9] at hn3
            obtain ⟨x, tx, rfl, rfl, hxl⟩ := str_at h3 hpab (by omega) hv3 hn3
            obtain ⟨h3, gens3, drawn3, toks3, os3⟩ := s3
            dsimp only at *
            k_steps
            exact ⟨_, _, rfl, fun _ _ e => e⟩
    · intro lR h7 tk7 ysR nR F7 N7 hneR hiR
      obtain ⟨ysR⟩ := ysR
      have Xb := Xa.sink F7 N7 hneR
      clear F7 N7 hneR F N G1 c6 c5 c4
      have F := Xb.F
      have N := Xb.N
      dsimp only [List.cons_append, List.nil_append] at N
      k_steps
      refine Stop.out ?_
      refine next _ _ _ o1' _ lL ysL nL lR ysR nR _ Xb e1 (fun p hp => .tail _ (mtA p hp)) (.tail _ mL) hiL (.head _) hiR rfl rfl (fun y y1 y2 => ?_)
      unfold upd
      rw [if_neg y2, if_neg y1]
end
end Mine
end

section
open PySem PySem.W PySem.Calls PyProof.Rows
set_option Elab.async false
namespace Mine
set_option maxRecDepth 100000
set_option maxHeartbeats 8000000

theorem fillW11 (h : PySem.Challenge.rw_ta0035_01.about = [] → hd.heap_39 = hd.heap_39) : (PySem.Challenge.rw_ta0035_01.about = [] → hd.heap_39 = hd.heap_39) := by
  k_fill
  exact h

theorem offI_of {L I : Addr} {cs : List (Addr × Obj)} {q78 q71 : Obj} {tl : List (Addr × Obj)} (nI : ∀ p ∈ cs ++ (78, q78) :: (71, q71) :: tl, p.1 ≠ I) (ca : ∀ a : Nat, L < a ∧ a ≤ L + 10 → ∃ o, (a, o) ∈ cs) : @Ne Nat I 71 ∧ @Ne Nat I 78 ∧ (@LE.le Nat _ I L ∨ @LT.lt Nat _ (L + 10) I) := by
  refine ⟨fun q => nI (71, q71) (List.mem_append_right _ (.tail _ (.head _))) q.symm, fun q => nI (78, q78) (List.mem_append_right _ (.head _)) q.symm, ?_⟩
  rcases Nat.lt_or_ge L I with h1 | h1
  · rcases Nat.lt_or_ge (L + 10) I with h2 | h2
    · exact .inr h2
    · obtain ⟨o, ho⟩ := ca I ⟨h1, h2⟩
      exact absurd rfl (nI _ (List.mem_append_left _ ho))
  · exact .inl h1

section
variable {w : World} {A : Around} {lo : List Str} {mean : ExcName → Option Value} {mg mb : Str → Option Value} {g : Heap}
local macro_rules | `(tactic| walk_at "no such key 2") => `(tactic| refine Stop.intro ?_)
local macro_rules | `(tactic| walk_at "compareOp Eq int int") => `(tactic| refine Stop.intro ?_)

set_option pp.deepTerms false in
theorem seg_j {gens : Array GenState} {drawn : Drawn} {os : OsState} {tk : Nat} {hp : Heap} {L fa : Addr} {cd : Value} {m : Str → Option Value} {Q : Flow → Shared → Prop} {o0 o1 o2 o3 o4 o5 o6 o7 o8 o9 q78 q71 : Obj} {tl : List (Addr × Obj)} {v0 v1 v2 v3 v4 v5 v6 v7 v9 : Option Value}
   (K : LawK w lo mean mg mb g A L) (X : Led g L hp m ([(L + 1 + 1 + 1 + 1 + 1 + 1 + 1 + 1 + 1 + 1, o0), (L + 1 + 1 + 1 + 1 + 1 + 1 + 1 + 1 + 1, o1), (L + 1 + 1 + 1 + 1 + 1 + 1 + 1 + 1, o2), (L + 1 + 1 + 1 + 1 + 1 + 1 + 1, o3), (L + 1 + 1 + 1 + 1 + 1 + 1, o4), (L + 1 + 1 + 1 + 1 + 1, o5), (L + 1 + 1 + 1 + 1, o6), (L + 1 + 1 + 1, o7), (L + 1 + 1, o8), (L + 1, o9)] : List (Addr × Obj)) q78 q71 tl) {D lL lR : Addr} {us uL uR : List Value} {ep nL nR : Nat}
   (e0 : o0.data = .cell v0) (e1 : o1.data = .cell v1) (e2 : o2.data = .cell v2) (e3 : o3.data = .cell v3) (e4 : o4.data = .cell v4) (e5 : o5.data = .cell v5) (e6 : o6.data = .cell v6) (e7 : o7.data = .cell v7) (e8 : o8.data = .cell (some (.ref D))) (e9 : o9.data = .cell v9)
   (hD : (D, listOf us.toArray ep) ∈ tl) (hus : IntsAre us fibs) {le ri : List Int} (hLm : (lL, listOf uL.toArray nL) ∈ tl) (hiL : IntsAre uL le) (hRm : (lR, listOf uR.toArray nR) ∈ tl) (hiR : IntsAre uR ri)
   (hle : (∀ d ∈ le, 0 ≤ d ∧ d ≤ 30) ∧ le.length ≤ 4096) (hri : (∀ d ∈ ri, 0 ≤ d ∧ d ≤ 30) ∧ ri.length ≤ 4096)
   (h01 : (le.map fun d => fb (d + 0)).sum = (ri.map fun d => fb (d + 0)).sum) (h11 : (le.map fun d => fb (d + 1)).sum = (ri.map fun d => fb (d + 1)).sum)
   {c mm : Int} {tc tm t5 t7 : Tok} (hc : m (Str.ofString "c") = some (.int c tc)) (hm : m (Str.ofString "m") = some (.int mm tm)) (h5 : m (Str.ofString "c_ahead") = some (.int (ahd c) t5)) (h7 : m (Str.ofString "m_ahead") = some (.int (ahd mm) t7)) (hml : m (Str.ofString "left") = some (.ref lL)) (hmr : m (Str.ofString "right") = some (.ref lR))
   (hmm : 0 ≤ mm ∧ mm < 2 ^ 62) (haq : 0 ≤ ahd mm ∧ ahd mm < 2 ^ 62) (hfin : (ri.map fb).sum = mm * c + mm * ahd c + ahd mm * c)
   (hQ : ∀ s', s'.gens = gens → (∀ b o, g.get? b = some o → s'.heap.get? b = some o) → T71 s'.heap → T78 s'.heap → s'.drawn = drawn → s'.os = os → Q (.ret (.bool true)) s') :
   wpAny (model prog0 w) A (execs (lawBody.drop 30) (envOfC (Str.ofString "law") lawScope L fa cd)) Q (fun _ _ => False) ⟨hp, gens, drawn, tk, os⟩ := by
  conv in execs _ _ =>
    congr
    · whnf
    · arg 2
      whnf
  dsimp only
  have KX := K.B.G.X
  have T := K.B.G.T
  have hL := K.hL
  have hA := K.hA
  have F := X.F
  have N := X.N
  have off := X.off
  w_top on
  k_steps
  refine Stop.out ?_
  refine wpAny_For ?_ (fun _ => rfl)
  dsimp only [List.cons_append, List.nil_append] at N
  k_steps
  refine Stop.out ?_
  refine for_range hA.hh X.F X.N (by decide) (by decide) (fun k m' news' => ∃ (o0' : Obj) (v0' : Option Value), news' = ([(L + 1 + 1 + 1 + 1 + 1 + 1 + 1 + 1 + 1 + 1, o0'), (L + 1 + 1 + 1 + 1 + 1 + 1 + 1 + 1 + 1, o1), (L + 1 + 1 + 1 + 1 + 1 + 1 + 1 + 1, o2), (L + 1 + 1 + 1 + 1 + 1 + 1 + 1, o3), (L + 1 + 1 + 1 + 1 + 1 + 1, o4), (L + 1 + 1 + 1 + 1 + 1, o5), (L + 1 + 1 + 1 + 1, o6), (L + 1 + 1 + 1, o7), (L + 1 + 1, o8), (L + 1, o9)] : List (Addr × Obj)) ++ (78, q78) :: (71, q71) :: tl ∧ o0'.data = .cell v0' ∧ m' = m) ⟨o0, _, rfl, e0, rfl⟩ ?_ ?_
  · rintro k m' news' h' tk' I o t hk ⟨o0', v0', rfl, e0, rfl⟩ F N hne
    have hI := offI_of hne c10_has
    have hk2 : k = 0 ∨ k = 1 := by omega
    dsimp only [List.cons_append, List.nil_append] at N
    k_steps
    (with_reducible rename Fr _ _ _ _ => F2); (with_reducible rename News _ _ _ _ => N2)
    clear e0
    rename Obj.data _ = Data.cell (some (Value.int (k : Int) t)) => e0
    obtain ⟨o0n, q⟩ := name_data e0
    subst q
    have G1 : Gd w lo mean mg mb _ := K.B.G.keeps F2.keep
    have c8 := cell_of (c := L + 1 + 1) N2 e8 (by k_mem)
    have c0 := cell_of (c := L + 1 + 1 + 1 + 1 + 1 + 1 + 1 + 1 + 1 + 1) N2 e0 (by k_mem)
    have inN : ∀ p ∈ tl, p ∈ (I, o) :: (L + 1 + 1 + 1 + 1 + 1 + 1 + 1 + 1 + 1 + 1, o0n) :: (L + 1 + 1 + 1 + 1 + 1 + 1 + 1 + 1 + 1, o1) :: (L + 1 + 1 + 1 + 1 + 1 + 1 + 1 + 1, o2) :: (L + 1 + 1 + 1 + 1 + 1 + 1 + 1, o3) :: (L + 1 + 1 + 1 + 1 + 1 + 1, o4) :: (L + 1 + 1 + 1 + 1 + 1, o5) :: (L + 1 + 1 + 1 + 1, o6) :: (L + 1 + 1 + 1, o7) :: (L + 1 + 1, o8) :: (L + 1, o9) :: (78, q78) :: (71, q71) :: tl := fun p hp => .tail _ (List.mem_append_right (as := ([(L + 1 + 1 + 1 + 1 + 1 + 1 + 1 + 1 + 1 + 1, o0n), (L + 1 + 1 + 1 + 1 + 1 + 1 + 1 + 1 + 1, o1), (L + 1 + 1 + 1 + 1 + 1 + 1 + 1 + 1, o2), (L + 1 + 1 + 1 + 1 + 1 + 1 + 1, o3), (L + 1 + 1 + 1 + 1 + 1 + 1, o4), (L + 1 + 1 + 1 + 1 + 1, o5), (L + 1 + 1 + 1 + 1, o6), (L + 1 + 1 + 1, o7), (L + 1 + 1, o8), (L + 1, o9)] : List (Addr × Obj))) (.tail _ (.tail _ hp)))
    have hlD : Heap.IsList _ D us.toArray := ⟨_, (N2 _ (inN _ hD)).1, rfl, _, rfl⟩
    have hlL : Heap.IsList _ lL uL.toArray := ⟨_, (N2 _ (inN _ hLm)).1, rfl, _, rfl⟩
    refine Stop.out ?_
    refine lc_list (fun v y => ∃ d t t', v = .int d t ∧ y = .int ((fun d => fb (d + (k : Int))) d) t') hA.hh F2 N2 hlL ?_ rfl (by decide) rfl (by decide) rfl ?_ ?_ ?_ (fun _ => rfl)
    · have := IntsAre.length hiL
      rw [List.size_toArray, this]; omega
    · k_steps
    · intro C i v s₃ m₃ hv F3 hm3
      have : ∃ d t, v = .int d t ∧ 0 ≤ d ∧ d ≤ 30 := by
        obtain ⟨d, t, e1, e2⟩ := ints_at hiL (by simpa using hv)
        exact ⟨d, t, e1, hle.1 d e2⟩
      obtain ⟨d, t, rfl, hd0, hd1⟩ := this
      obtain ⟨h3, gens3, drawn3, toks3, os3⟩ := s₃
      dsimp only at *
      refine wpAny_mono (Q := EltEnd (fun y => ∃ d' t1 t', Value.int d t = .int d' t1 ∧ y = .int ((fun d => fb (d + (k : Int))) d') t') ⟨h3, gens3, drawn3, toks3, os3⟩) ?_ (fun _ _ h => h) fun _ _ e => e
      k_steps
      refine Stop.out ?_
      obtain ⟨t9, hx⟩ := fib_at hus (d := d + (k : Int)) (by omega) (by omega)
      refine sub_at (IsList.keepsAll hlD F3.keep) (by omega) (by omega) hx ?_
      exact ⟨⟨d, t, _, rfl, rfl⟩, _, _, rfl, fun _ _ e => e⟩
    · intro D1 h1 tk1 ys1 n1 F4 N4 hne4 hpd
      obtain ⟨ys1⟩ := ys1
      have hi1 := paired_ints hiL hpd
      clear hpd G1 c8 c0 hlD hlL F2 N2
      k_steps
      refine Stop.out ?_
      refine LSm.sum_ints F4 N4 hA.hh (vs := ys1) ⟨_, (N4 _ (.head _)).1, rfl, _, rfl⟩ hi1 (fun h2 tk2 t2 F5 N5 => ?_)
      clear F4 N4 hi1 hne4
      have G1 : Gd w lo mean mg mb _ := K.B.G.keeps F5.keep
      have c8 := cell_of (c := L + 1 + 1) N5 e8 (by k_mem)
      have c0 := cell_of (c := L + 1 + 1 + 1 + 1 + 1 + 1 + 1 + 1 + 1 + 1) N5 e0 (by k_mem)
      have hlD : Heap.IsList _ D us.toArray := ⟨_, (N5 _ (.tail _ (inN _ hD))).1, rfl, _, rfl⟩
      have hlR : Heap.IsList _ lR uR.toArray := ⟨_, (N5 _ (.tail _ (inN _ hRm))).1, rfl, _, rfl⟩
      k_steps
      refine Stop.out ?_
      refine lc_list (fun v y => ∃ d t t', v = .int d t ∧ y = .int ((fun d => fb (d + (k : Int))) d) t') hA.hh F5 N5 hlR ?_ rfl (by decide) rfl (by decide) rfl ?_ ?_ ?_ (fun _ => rfl)
      · have := IntsAre.length hiR
        rw [List.size_toArray, this]; omega
      · k_steps
      · intro C i v s₃ m₃ hv F3 hm3
        have : ∃ d t, v = .int d t ∧ 0 ≤ d ∧ d ≤ 30 := by
          obtain ⟨d, t, e1, e2⟩ := ints_at hiR (by simpa using hv)
          exact ⟨d, t, e1, hri.1 d e2⟩
        obtain ⟨d, t, rfl, hd0, hd1⟩ := this
        obtain ⟨h3, gens3, drawn3, toks3, os3⟩ := s₃
        dsimp only at *
        refine wpAny_mono (Q := EltEnd (fun y => ∃ d' t1 t', Value.int d t = .int d' t1 ∧ y = .int ((fun d => fb (d + (k : Int))) d') t') ⟨h3, gens3, drawn3, toks3, os3⟩) ?_ (fun _ _ h => h) fun _ _ e => e
        k_steps
        refine Stop.out ?_
        obtain ⟨t9, hx⟩ := fib_at hus (d := d + (k : Int)) (by omega) (by omega)
        refine sub_at (IsList.keepsAll hlD F3.keep) (by omega) (by omega) hx ?_
        exact ⟨⟨d, t, _, rfl, rfl⟩, _, _, rfl, fun _ _ e => e⟩
      · intro D2 h3 tk3 ys2 n2 F6 N6 hne6 hpd2
        obtain ⟨ys2⟩ := ys2
        have hi2 := paired_ints hiR hpd2
        clear hpd2 G1 c8 c0 hlD hlR F5 N5
        k_steps
        refine Stop.out ?_
        refine LSm.sum_ints F6 N6 hA.hh (vs := ys2) ⟨_, (N6 _ (.head _)).1, rfl, _, rfl⟩ hi2 (fun h4 tk4 t4 F7 N7 => ?_)
        clear F6 N6 hi2 hne6
        k_steps
        refine Stop.out ?_
        have hs : (le.map fun d => fb (d + (k : Int))).sum = (ri.map fun d => fb (d + (k : Int))).sum := by
          rcases hk2 with rfl | rfl
          · exact h01
          · exact h11
        rw [hs]
        refine ne_int ?_
        rw [bne_self_eq_false]
        k_steps
        refine ⟨_, ([(L + 1 + 1 + 1 + 1 + 1 + 1 + 1 + 1 + 1 + 1, o0n), (L + 1 + 1 + 1 + 1 + 1 + 1 + 1 + 1 + 1, o1), (L + 1 + 1 + 1 + 1 + 1 + 1 + 1 + 1, o2), (L + 1 + 1 + 1 + 1 + 1 + 1 + 1, o3), (L + 1 + 1 + 1 + 1 + 1 + 1, o4), (L + 1 + 1 + 1 + 1 + 1, o5), (L + 1 + 1 + 1 + 1, o6), (L + 1 + 1 + 1, o7), (L + 1 + 1, o8), (L + 1, o9)] : List (Addr × Obj)) ++ (78, q78) :: (71, q71) :: tl, _, _, rfl, ⟨o0n, _, rfl, e0, rfl⟩, F7, fun p hp => N7 p (.tail _ (.tail _ hp)), ne_of_map hne rfl⟩
  · rintro m' news' h' tk' ⟨o0', v0', rfl, e0, rfl⟩ F N
    have Xe : Led g L _ _ ([(L + 1 + 1 + 1 + 1 + 1 + 1 + 1 + 1 + 1 + 1, o0'), (L + 1 + 1 + 1 + 1 + 1 + 1 + 1 + 1 + 1, o1), (L + 1 + 1 + 1 + 1 + 1 + 1 + 1 + 1, o2), (L + 1 + 1 + 1 + 1 + 1 + 1 + 1, o3), (L + 1 + 1 + 1 + 1 + 1 + 1, o4), (L + 1 + 1 + 1 + 1 + 1, o5), (L + 1 + 1 + 1 + 1, o6), (L + 1 + 1 + 1, o7), (L + 1 + 1, o8), (L + 1, o9)] : List (Addr × Obj)) q78 q71 tl := ⟨F, N, off, X.t78, X.t71, c10_cl e0 e1 e2 e3 e4 e5 e6 e7 e8 e9, c10_has⟩
    dsimp only [List.cons_append, List.nil_append] at N
    have G1 : Gd w lo mean mg mb _ := K.B.G.keeps F.keep
    have c8 := cell_of (c := L + 1 + 1) N e8 (by k_mem)
    have hlD := Xe.isList hD
    have hlR := Xe.isList hRm
    k_steps
    refine Stop.out ?_
    refine lc_list (fun v y => ∃ d t t', v = .int d t ∧ y = .int (fb d) t') hA.hh F N hlR ?_ rfl (by decide) rfl (by decide) rfl ?_ ?_ ?_ (fun _ => rfl)
    · have := IntsAre.length hiR
      rw [List.size_toArray, this]; omega
    · k_steps
    · intro C i v s₃ m₃ hv F3 hm3
      have : ∃ d t, v = .int d t ∧ 0 ≤ d ∧ d ≤ 30 := by
        obtain ⟨d, t, e1, e2⟩ := ints_at hiR (by simpa using hv)
        exact ⟨d, t, e1, hri.1 d e2⟩
      obtain ⟨d, t, rfl, hd0, hd1⟩ := this
      obtain ⟨h3, gens3, drawn3, toks3, os3⟩ := s₃
      dsimp only at *
      refine wpAny_mono (Q := EltEnd (fun y => ∃ d' t1 t', Value.int d t = .int d' t1 ∧ y = .int (fb d') t') ⟨h3, gens3, drawn3, toks3, os3⟩) ?_ (fun _ _ h => h) fun _ _ e => e
      k_steps
      refine Stop.out ?_
      obtain ⟨t9, hx⟩ := fib_at hus (d := d) (by omega) (by omega)
      refine sub_at (IsList.keepsAll hlD F3.keep) (by omega) (by omega) hx ?_
      exact ⟨⟨d, t, _, rfl, rfl⟩, _, _, rfl, fun _ _ e => e⟩
    · intro D1 h1 tk1 ys1 n1 F4 N4 hne4 hpd
      obtain ⟨ys1⟩ := ys1
      have hi1 := paired_ints hiR hpd
      have Xf := Xe.sink F4 N4 hne4
      clear hpd G1 c8 hlD hlR F N Xe
      k_steps
      refine Stop.out ?_
      refine LSm.sum_ints F4 N4 hA.hh (vs := ys1) ⟨_, (N4 _ (.head _)).1, rfl, _, rfl⟩ hi1 (fun h2 tk2 t2 F5 N5 => ?_)
      clear F4 N4 hi1 
      k_steps
      refine Stop.out ?_
      refine mul_int ?_ (mul_ok hmm.1 hmm.2)
      k_steps
      refine Stop.out ?_
      refine mul_int ?_ (mul_ok hmm.1 hmm.2)
      k_steps
      refine Stop.out ?_
      refine mul_int ?_ (mul_ok haq.1 haq.2)
      k_steps
      refine Stop.out ?_
      rw [← hfin]
      refine eq_int ?_
      rw [beq_self_eq_true]
      k_steps
      have Xg : Led g L _ _ ([(L + 1 + 1 + 1 + 1 + 1 + 1 + 1 + 1 + 1 + 1, o0'), (L + 1 + 1 + 1 + 1 + 1 + 1 + 1 + 1 + 1, o1), (L + 1 + 1 + 1 + 1 + 1 + 1 + 1 + 1, o2), (L + 1 + 1 + 1 + 1 + 1 + 1 + 1, o3), (L + 1 + 1 + 1 + 1 + 1 + 1, o4), (L + 1 + 1 + 1 + 1 + 1, o5), (L + 1 + 1 + 1 + 1, o6), (L + 1 + 1 + 1, o7), (L + 1 + 1, o8), (L + 1, o9)] : List (Addr × Obj)) q78 q71 ((D1, listOf (List.toArray ys1) n1) :: tl) := ⟨F5, fun p hp => N5 p (by
        rcases List.mem_append.mp hp with hp | hp
        · exact .tail _ (List.mem_append_left _ hp)
        · rcases List.mem_cons.mp hp with rfl | hp
          · exact .tail _ (List.mem_append_right (as := ([(L + 1 + 1 + 1 + 1 + 1 + 1 + 1 + 1 + 1 + 1, o0'), (L + 1 + 1 + 1 + 1 + 1 + 1 + 1 + 1 + 1, o1), (L + 1 + 1 + 1 + 1 + 1 + 1 + 1 + 1, o2), (L + 1 + 1 + 1 + 1 + 1 + 1 + 1, o3), (L + 1 + 1 + 1 + 1 + 1 + 1, o4), (L + 1 + 1 + 1 + 1 + 1, o5), (L + 1 + 1 + 1 + 1, o6), (L + 1 + 1 + 1, o7), (L + 1 + 1, o8), (L + 1, o9)] : List (Addr × Obj))) (.head _))
          · rcases List.mem_cons.mp hp with rfl | hp
            · exact .tail _ (List.mem_append_right (as := ([(L + 1 + 1 + 1 + 1 + 1 + 1 + 1 + 1 + 1 + 1, o0'), (L + 1 + 1 + 1 + 1 + 1 + 1 + 1 + 1 + 1, o1), (L + 1 + 1 + 1 + 1 + 1 + 1 + 1 + 1, o2), (L + 1 + 1 + 1 + 1 + 1 + 1 + 1, o3), (L + 1 + 1 + 1 + 1 + 1 + 1, o4), (L + 1 + 1 + 1 + 1 + 1, o5), (L + 1 + 1 + 1 + 1, o6), (L + 1 + 1 + 1, o7), (L + 1 + 1, o8), (L + 1, o9)] : List (Addr × Obj))) (.tail _ (.head _)))
            · rcases List.mem_cons.mp hp with rfl | hp
              · exact .head _
              · exact .tail _ (List.mem_append_right (as := ([(L + 1 + 1 + 1 + 1 + 1 + 1 + 1 + 1 + 1 + 1, o0'), (L + 1 + 1 + 1 + 1 + 1 + 1 + 1 + 1 + 1, o1), (L + 1 + 1 + 1 + 1 + 1 + 1 + 1 + 1, o2), (L + 1 + 1 + 1 + 1 + 1 + 1 + 1, o3), (L + 1 + 1 + 1 + 1 + 1 + 1, o4), (L + 1 + 1 + 1 + 1 + 1, o5), (L + 1 + 1 + 1 + 1, o6), (L + 1 + 1 + 1, o7), (L + 1 + 1, o8), (L + 1, o9)] : List (Addr × Obj))) (.tail _ (.tail _ hp)))), Xf.off, Xf.t78, Xf.t71, Xf.cl, Xf.ca⟩
      exact hQ _ rfl F5.keep Xg.T71 Xg.T78 rfl rfl
end
end Mine
end
end
end
end

section
open PySem PySem.W PySem.Calls PyProof.Rows
set_option Elab.async false
namespace Mine
set_option maxRecDepth 100000
set_option maxHeartbeats 8000000

/-- the plain law: what the numbers must be -/
structure PL (a b c wd : Int) (pa pb pc pm : List Int) (pa0 pb0 pc0 pm0 : Int) (cnt : Nat) : Prop where
  hpa : plc fibs 64 a = some pa
  hpb : plc fibs 64 b = some pb
  hpc : plc fibs 64 c = some pc
  hpm : plc fibs 64 ((heardL pa pb).map fb).sum = some pm
  fA : FigOk a pa pa0
  fB : FigOk b pb pb0
  fC : FigOk c pc pc0
  fM : FigOk ((heardL pa pb).map fb).sum pm pm0
  bA : ∀ d ∈ pa, 2 ≤ d ∧ d ≤ 12
  bB : ∀ d ∈ pb, 2 ≤ d ∧ d ≤ 12 ∧ d ≤ pb0
  bC : ∀ d ∈ pc, 2 ≤ d ∧ d ≤ 6 ∧ d ≤ pc0
  bM : ∀ d ∈ pm, 2 ≤ d ∧ d ≤ 24
  lA : pa.length ≤ 8
  lB : pb.length ≤ 8
  lC : pc.length ≤ 8
  lM : pm.length ≤ 16
  eM : ((heardL pa pb).map fb).sum = a * b + a * ahd b + ahd a * b
  rA : rst a = fb 30 + (pa.map sg).sum
  rB : rst b = fb 30 + (pb.map sg).sum
  rC : rst c = fb 30 + (pc.map sg).sum
  rM : rst ((heardL pa pb).map fb).sum = fb 30 + ((heardL pa pb).map sg).sum
  hprod : 0 ≤ dv wd (bitsL pa (pa0 + 1).toNat) * dv wd (bitsL pb (pb0 + 1).toNat)
  hb1 : Builtin.Int.intBits (dv wd (bitsL pa (pa0 + 1).toNat)) ≤ 2 ^ 20
  hb2 : Builtin.Int.intBits (dv wd (bitsL pb (pb0 + 1).toNat)) ≤ 2 ^ 20
  hbits : Builtin.Int.intBits (dv wd (bitsL pa (pa0 + 1).toNat) * dv wd (bitsL pb (pb0 + 1).toNat)) ≤ 4096
  hcnt : (cnt : Int) = ((Builtin.Int.intBits (dv wd (bitsL pa (pa0 + 1).toNat) * dv wd (bitsL pb (pb0 + 1).toNat)) : Int) + wd - 1).fdiv wd
  hc64 : cnt ≤ 64
  hdig : digs wd cnt (dv wd (bitsL pa (pa0 + 1).toNat) * dv wd (bitsL pb (pb0 + 1).toNat)) = (List.range (pa0 + pb0 + 1).toNat).map fun (i : Nat) => (((heardL pa pb).count (i : Int) : Nat) : Int)
  h01 : ((heardL pm pc).map fun d => fb (d + 0)).sum = ((rightL pa pb pc).map fun d => fb (d + 0)).sum
  h11 : ((heardL pm pc).map fun d => fb (d + 1)).sum = ((rightL pa pb pc).map fun d => fb (d + 1)).sum
  hfin : ((rightL pa pb pc).map fb).sum = ((heardL pa pb).map fb).sum * c + ((heardL pa pb).map fb).sum * ahd c + ahd ((heardL pa pb).map fb).sum * c

theorem flat_len {α : Type} : ∀ (xs : List (List α)) (B : Nat), (∀ x ∈ xs, x.length ≤ B) → xs.flatten.length ≤ xs.length * B
  | [], _, _ => Nat.zero_le _
  | x :: r, B, h => by
    have h1 := flat_len r B fun y hy => h y (.tail _ hy)
    have h2 := h x (.head _)
    rw [List.flatten_cons, List.length_append, List.length_cons, Nat.succ_mul]
    omega

theorem mem_heard {pa pb : List Int} {d : Int} : d ∈ heardL pa pb ↔ ∃ j ∈ pb, ∃ x ∈ pa, x + j = d := by
  unfold heardL
  simp only [List.mem_flatten, List.mem_map]
  constructor
  · rintro ⟨l, ⟨j, hj, rfl⟩, h⟩
    obtain ⟨x, hx, rfl⟩ := List.mem_map.mp h
    exact ⟨j, hj, x, hx, rfl⟩
  · rintro ⟨j, hj, x, hx, rfl⟩
    exact ⟨_, ⟨j, hj, rfl⟩, List.mem_map.mpr ⟨x, hx, rfl⟩⟩

theorem mem_right {pa pb pc : List Int} {d : Int} : d ∈ rightL pa pb pc ↔ ∃ j ∈ pb, ∃ k ∈ pc, ∃ x ∈ pa, x + (j + k) = d := by
  unfold rightL
  simp only [List.mem_flatten, List.mem_map]
  constructor
  · rintro ⟨l, ⟨j, hj, rfl⟩, h⟩
    obtain ⟨l2, hl2, h⟩ := List.mem_flatten.mp h
    obtain ⟨k, hk, rfl⟩ := List.mem_map.mp hl2
    obtain ⟨x, hx, rfl⟩ := List.mem_map.mp h
    exact ⟨j, hj, k, hk, x, hx, rfl⟩
  · rintro ⟨j, hj, k, hk, x, hx, rfl⟩
    exact ⟨_, ⟨j, hj, rfl⟩, List.mem_flatten.mpr ⟨_, List.mem_map.mpr ⟨k, hk, rfl⟩, List.mem_map.mpr ⟨x, hx, rfl⟩⟩⟩

theorem heard_len {pa pb : List Int} {A B : Nat} (hA : pa.length ≤ A) (hB : pb.length ≤ B) : (heardL pa pb).length ≤ B * A := by
  have := flat_len (pb.map fun j => pa.map fun d => d + j) A (fun x hx => by
    obtain ⟨j, _, rfl⟩ := List.mem_map.mp hx
    rw [List.length_map]; exact hA)
  rw [List.length_map] at this
  exact Nat.le_trans this (Nat.mul_le_mul_right _ hB)

theorem right_len {pa pb pc : List Int} {A B C : Nat} (hA : pa.length ≤ A) (hB : pb.length ≤ B) (hC : pc.length ≤ C) : (rightL pa pb pc).length ≤ B * (C * A) := by
  have h1 : ∀ j : Int, ((pc.map fun k => pa.map fun d => d + (j + k)).flatten).length ≤ C * A := fun j => by
    have := flat_len (pc.map fun k => pa.map fun d => d + (j + k)) A (fun x hx => by
      obtain ⟨k, _, rfl⟩ := List.mem_map.mp hx
      rw [List.length_map]; exact hA)
    rw [List.length_map] at this
    exact Nat.le_trans this (Nat.mul_le_mul_right _ hC)
  have := flat_len (pb.map fun j => (pc.map fun k => pa.map fun d => d + (j + k)).flatten) (C * A) (fun x hx => by
    obtain ⟨j, _, rfl⟩ := List.mem_map.mp hx
    exact h1 j)
  rw [List.length_map] at this
  exact Nat.le_trans this (Nat.mul_le_mul_right _ hB)

theorem ahd_bnd {n : Int} (h0 : 0 ≤ n) (h1 : n < 2 ^ 40) : 0 ≤ ahd n ∧ ahd n < 2 ^ 62 := by
  unfold ahd
  omega

section
variable {w : World} {A : Around} {lo : List Str} {mean : ExcName → Option Value} {mg mb : Str → Option Value} {g : Heap}

theorem law_all {gens : Array GenState} {drawn : Drawn} {os : OsState} {tk : Nat} {hp : Heap} {L fa : Addr} {cd : Value} {m : Str → Option Value} {Q : Flow → Shared → Prop} {o0 o1 o2 o3 o4 o5 o6 o7 o8 o9 : Obj} {sl : Addr} {vs : List Value} {ns : List Int}
   (plain : ∀ a b c wd : Int, (1 ≤ a ∧ a ≤ 54) → (1 ≤ b ∧ b ≤ 20) → (1 ≤ c ∧ c ≤ 12) → (3 ≤ wd ∧ wd ≤ 42) → ∃ pa pb pc pm pa0 pb0 pc0 pm0 cnt, PL a b c wd pa pb pc pm pa0 pb0 pc0 pm0 cnt)
   (K : LawK w lo mean mg mb g A L) (F : Fr g L hp m)
   (N : News g L hp (([(L + 1 + 1 + 1 + 1 + 1 + 1 + 1 + 1 + 1 + 1, o0), (L + 1 + 1 + 1 + 1 + 1 + 1 + 1 + 1 + 1, o1), (L + 1 + 1 + 1 + 1 + 1 + 1 + 1 + 1, o2), (L + 1 + 1 + 1 + 1 + 1 + 1 + 1, o3), (L + 1 + 1 + 1 + 1 + 1 + 1, o4), (L + 1 + 1 + 1 + 1 + 1, o5), (L + 1 + 1 + 1 + 1, o6), (L + 1 + 1 + 1, o7), (L + 1 + 1, o8), (L + 1, o9)] : List (Addr × Obj)) ++ [(78, tabObj #[]), (71, tabObj #[])]))
   (e0 : o0.data = .cell none) (e1 : o1.data = .cell none) (e2 : o2.data = .cell none) (e3 : o3.data = .cell none) (e4 : o4.data = .cell none) (e5 : o5.data = .cell none) (e6 : o6.data = .cell none) (e7 : o7.data = .cell none) (e8 : o8.data = .cell none) (e9 : o9.data = .cell (some (.ref sl)))
   (hsl : g.IsList sl vs.toArray) (hvs : IntsAre vs ns) (hns : ns.length ≤ 63)
   (hQ : ∀ s', s'.gens = gens → (∀ b o, g.get? b = some o → s'.heap.get? b = some o) → T71 s'.heap → T78 s'.heap → s'.drawn = drawn → s'.os = os → Q (.ret (.bool true)) s') :
   wpAny (model prog0 w) A (execs (lawBody.drop 0) (envOfC (Str.ofString "law") lawScope L fa cd)) Q (fun _ _ => False) ⟨hp, gens, drawn, tk, os⟩ := by
  have hL := K.hL
  refine seg_a (tl := []) K F N (fun p hp => by cases hp) e8 ?_
  intro h1 tk1 D us ep o8 F1 Na hus e8 hD
  have N1 := news_perm (xs := [_]) (cs := ([(L + 1 + 1 + 1 + 1 + 1 + 1 + 1 + 1 + 1 + 1, o0), (L + 1 + 1 + 1 + 1 + 1 + 1 + 1 + 1 + 1, o1), (L + 1 + 1 + 1 + 1 + 1 + 1 + 1 + 1, o2), (L + 1 + 1 + 1 + 1 + 1 + 1 + 1, o3), (L + 1 + 1 + 1 + 1 + 1 + 1, o4), (L + 1 + 1 + 1 + 1 + 1, o5), (L + 1 + 1 + 1 + 1, o6), (L + 1 + 1 + 1, o7), (L + 1 + 1, o8), (L + 1, o9)] : List (Addr × Obj))) Na
  have htl : ∀ p ∈ [(D, listOf us.toArray ep)] ++ [], @LT.lt Nat _ (L + 1 + 1 + 1 + 1 + 1 + 1 + 1 + 1 + 1 + 1) p.1 := fun p hp => by
    rcases List.mem_cons.mp hp with rfl | hp
    · exact hD
    · cases hp
  have hDm : (D, listOf us.toArray ep) ∈ [(D, listOf us.toArray ep)] ++ [] := .head _
  generalize [(D, listOf us.toArray ep)] ++ [] = tl1 at N1 htl hDm
  clear F N Na
  refine seg_b K F1 N1 htl hsl hvs hns e9 ?_
  intro h2 tk2 m2 a ta b tb c tc e te wd tw F N ma mb mc me mw ba bb bc he bw
  obtain ⟨pa, pb, pc, pm, pa0, pb0, pc0, pm0, cnt, P⟩ := plain a b c wd ba bb bc bw
  have X1 : Led g L h2 m2 ([(L + 1 + 1 + 1 + 1 + 1 + 1 + 1 + 1 + 1 + 1, o0), (L + 1 + 1 + 1 + 1 + 1 + 1 + 1 + 1 + 1, o1), (L + 1 + 1 + 1 + 1 + 1 + 1 + 1 + 1, o2), (L + 1 + 1 + 1 + 1 + 1 + 1 + 1, o3), (L + 1 + 1 + 1 + 1 + 1 + 1, o4), (L + 1 + 1 + 1 + 1 + 1, o5), (L + 1 + 1 + 1 + 1, o6), (L + 1 + 1 + 1, o7), (L + 1 + 1, o8), (L + 1, o9)] : List (Addr × Obj)) (tabObj #[]) (tabObj #[]) tl1 := ⟨F, N, fun p hp => off_gt hL (htl p hp), fun h' _ _ hP => ⟨#[], hP, .inl rfl⟩, fun h' _ _ hP => ⟨#[], hP, .inl rfl⟩, c10_cl e0 e1 e2 e3 e4 e5 e6 e7 e8 e9, c10_has⟩
  have hB0 := P.fB.bnd
  have hC0 := P.fC.bnd
  have hA0 := P.fA.bnd
  have qb := P.bB pb0 (List.mem_of_getElem? P.fB.head)
  have qc := P.bC pc0 (List.mem_of_getElem? P.fC.head)
  have qa := P.bA pa0 (List.mem_of_getElem? P.fA.head)
  have hpan : pa ≠ [] := fun q => by have := P.fA.head; rw [q] at this; cases this
  have hpmn : pm ≠ [] := fun q => by have := P.fM.head; rw [q] at this; cases this
  have lh := heard_len P.lA P.lB
  have hmm := P.fM.num
  have hm1 : 0 ≤ ((heardL pa pb).map fb).sum ∧ ((heardL pa pb).map fb).sum < 100000 := ⟨hmm.1, Int.lt_of_le_of_lt (Int.le_add_of_nonneg_right (by decide)) hmm.2⟩
  have bB : ∀ d ∈ pb, 2 ≤ d ∧ d ≤ 12 := fun d hd => ⟨(P.bB d hd).1, (P.bB d hd).2.1⟩
  have bC : ∀ d ∈ pc, 2 ≤ d ∧ d ≤ 6 := fun d hd => ⟨(P.bC d hd).1, (P.bC d hd).2.1⟩
  have qb2 : 2 ≤ pb0 ∧ pb0 ≤ 12 := ⟨qb.1, qb.2.1⟩
  have qc2 : 2 ≤ pc0 ∧ pc0 ≤ 6 := ⟨qc.1, qc.2.1⟩
  have qbc : 0 ≤ pb0 + pc0 ∧ pb0 + pc0 ≤ 40 := rng_add qb2 qc2 (by decide) (by decide)
  have dA : ∀ d ∈ pa, 0 ≤ d ∧ d ≤ 31 := fun d hd => rng_le (P.bA d hd) (by decide) (by decide)
  have dB : ∀ d ∈ pb, 0 ≤ d ∧ d ≤ 31 := fun d hd => rng_le (bB d hd) (by decide) (by decide)
  have dC : ∀ d ∈ pc, 0 ≤ d ∧ d ≤ 31 := fun d hd => rng_le (bC d hd) (by decide) (by decide)
  have dE : ∀ d ∈ heardL pa pb, 0 ≤ d ∧ d ≤ 31 := fun d hd => by
    obtain ⟨j, hj, x, hx, rfl⟩ := mem_heard.mp hd
    exact rng_add (P.bA x hx) (bB j hj) (by decide) (by decide)
  clear F N
  refine seg_c K X1 e0 e1 e2 e3 e4 e5 e6 e7 e9 e8 hDm hus ma mb mc me he P.hpa P.hpb P.hpc P.fB.head P.fC.head qbc hpan (Nat.le_trans P.lA (by decide)) (fun n hn => rng_le (P.bA n hn) (by decide) (by decide)) ?_
  intro h3 tk3 tl2 o4 o5 o6 o7 pA uA nA pB uB nB pC uC nC hH iH nH rH X2 e4 e5 e6 e7 mA iA mB iB mC iC mH mrH sH HI mD
  clear X1
  refine seg_d K X2 e0 e1 e2 e3 e4 e5 e6 e7 e8 e9 mB iB mH mrH sH HI (fun n hn => rng_le (P.bA n hn) (by decide) (by decide)) qbc.2 (fun j hj => ⟨Int.le_trans (by decide) (bB j hj).1, Int.le_trans (P.bB j hj).2.2 (Int.le_add_of_nonneg_right (Int.le_trans (by decide) qc2.1))⟩) (Nat.le_trans lh (by decide)) ?_
  intro h4 tk4 o3 hE yE nE X3 e3 iE
  clear X2
  have mE : (hE, listOf (List.toArray yE) nE) ∈ (hE, listOf (List.toArray yE) nE) :: tl2 := .head _
  have t3 : ∀ p ∈ tl2, p ∈ (hE, listOf (List.toArray yE) nE) :: tl2 := fun p hp => .tail _ hp
  generalize (hE, listOf (List.toArray yE) nE) :: tl2 = tl3 at X3 mE t3
  refine seg_e K X3 e3 e6 e7 (t3 _ mA) iA (t3 _ mB) iB mE iE P.fA.head P.fB.head (rng_le qa (by decide) (by decide)) (rng_le qb2 (by decide) (by decide)) mw bw P.hb1 P.hb2 P.hprod P.hbits P.hcnt P.hc64 P.hdig ?_
  intro h5 tk5 m5 q78 q71 tl5 X5 t5 hm5
  clear X3
  have t5a : ∀ p ∈ tl2, p ∈ tl5 := fun p hp => t5 p (t3 p hp)
  have ma5 := (hm5 (Str.ofString "a") (by decide +kernel) (by decide +kernel)).trans ma
  have mb5 := (hm5 (Str.ofString "b") (by decide +kernel) (by decide +kernel)).trans mb
  have mc5 := (hm5 (Str.ofString "c") (by decide +kernel) (by decide +kernel)).trans mc
  have me5 := (hm5 (Str.ofString "end") (by decide +kernel) (by decide +kernel)).trans me
  refine seg_f K X5 e3 e8 (t5a _ mD) hus (t5 _ mE) iE dE (Nat.le_trans lh (by decide)) ma5 mb5 mc5 (rng_lt ba (by decide) (by decide)) (rng_lt bb (by decide) (by decide)) (rng_lt bc (by decide) (by decide)) hm1 P.eM (ahd_bnd (Int.le_trans (by decide) ba.1) (Int.lt_of_le_of_lt ba.2 (by decide))) ?_
  intro h6 tk6 m6 q78 q71 tl6 tm u1 u2 u3 u4 u5 u6 u7 u8 X6 t6 mm6 ah1 ah2 ah3 ah4 ah5 ah6 ah7 ah8 ma6 mb6 mc6 me6
  clear X5
  have t6a : ∀ p ∈ tl2, p ∈ tl6 := fun p hp => t6 p (t5a p hp)
  refine seg_g K X6 e3 e5 e6 e7 e8 (t6a _ mD) hus (t6a _ mA) iA (t6a _ mB) iB (t6a _ mC) iC (t6 _ (t5 _ mE)) iE ⟨dA, Nat.le_trans P.lA (by decide)⟩ ⟨dB, Nat.le_trans P.lB (by decide)⟩ ⟨dC, Nat.le_trans P.lC (by decide)⟩ ⟨dE, Nat.le_trans lh (by decide)⟩ ah2 ah4 ah6 ah8 P.rA P.rB P.rC P.rM ?_
  intro h7 tk7 m7 tl7 X7 t7 hm7
  clear X6
  have t7a : ∀ p ∈ tl2, p ∈ tl7 := fun p hp => t7 p (t6a p hp)
  have g7 : ∀ y, y ≠ Str.ofString "rest" → y ≠ Str.ofString "dots" → m7 y = m6 y := hm7
  refine seg_h K X7 e0 e1 e2 e3 e4 e5 e6 e7 e8 e9 (t7a _ mD) hus (t7a _ mA) iA (t7a _ mB) iB (t7a _ mC) iC ((g7 _ (by decide +kernel) (by decide +kernel)).trans ma6) ((g7 _ (by decide +kernel) (by decide +kernel)).trans mb6) ((g7 _ (by decide +kernel) (by decide +kernel)).trans mc6) ((g7 _ (by decide +kernel) (by decide +kernel)).trans mm6)
    ((g7 _ (by decide +kernel) (by decide +kernel)).trans ah1) ((g7 _ (by decide +kernel) (by decide +kernel)).trans ah3) ((g7 _ (by decide +kernel) (by decide +kernel)).trans ah5) ((g7 _ (by decide +kernel) (by decide +kernel)).trans ah7) P.hpm P.fA P.fB P.fC P.fM ?_
  intro h8 tk8 m8 o2 q78 q71 tl8 pM uM nM v2 X8 e2 t8 mM iM mpm hm8
  clear X7
  have t8a : ∀ p ∈ tl2, p ∈ tl8 := fun p hp => t8 p (t7a p hp)
  have g8 : ∀ y, y ≠ Str.ofString "pm" → y ≠ Str.ofString "n" → y ≠ Str.ofString "now" → y ≠ Str.ofString "figures" → y ≠ Str.ofString "rest" → y ≠ Str.ofString "dots" → m8 y = m6 y := fun y a b c d e f => (hm8 y a b c d).trans (g7 y e f)
  have me8 := (g8 (Str.ofString "end") (by decide +kernel) (by decide +kernel) (by decide +kernel) (by decide +kernel) (by decide +kernel) (by decide +kernel)).trans (me6.trans me5)
  refine seg_i (v1 := none) K X8 e0 e1 e2 e3 e4 e5 e6 e7 e8 e9 (t8a _ mB) iB (t8a _ mC) iC mM iM (t8a _ mH) (fun p hp => t8a p (mrH p hp)) sH HI P.fC.head (rng_le qc2 (by decide) (by decide)) hpmn (Nat.le_trans P.lM (by decide)) (fun n hn => rng_le (P.bM n hn) (by decide) (by decide)) (fun k hk => ⟨Int.le_trans (by decide) (bC k hk).1, (P.bC k hk).2.2⟩) (fun n hn => rng_le (P.bA n hn) (by decide) (by decide)) qbc.2 (fun j hj k hk => ⟨Int.le_trans (by decide) (bB j hj).1, Int.le_trans (by decide) (bC k hk).1, Int.add_le_add (P.bB j hj).2.2 (P.bC k hk).2.2⟩)
    (Nat.le_trans (heard_len P.lM P.lC) (by decide)) (Nat.le_trans (right_len P.lA P.lB P.lC) (by decide)) me8 he mpm ?_
  intro h9 tk9 m9 o1 tl9 lL uL nL lR uR nR v1 X9 e1 t9 mLL iL mRR iR ml mr hm9
  clear X8
  have g9 : ∀ y, y ≠ Str.ofString "pm" → y ≠ Str.ofString "n" → y ≠ Str.ofString "now" → y ≠ Str.ofString "figures" → y ≠ Str.ofString "rest" → y ≠ Str.ofString "dots" → y ≠ Str.ofString "left" → y ≠ Str.ofString "right" → m9 y = m6 y := fun y a b c d e f i j => (hm9 y i j).trans (g8 y a b c d e f)
  refine seg_j K X9 e0 e1 e2 e3 e4 e5 e6 e7 e8 e9 (t9 _ (t8a _ mD)) hus mLL iL mRR iR ⟨fun d hd => ?_, Nat.le_trans (heard_len P.lM P.lC) (by decide)⟩ ⟨fun d hd => ?_, Nat.le_trans (right_len P.lA P.lB P.lC) (by decide)⟩ P.h01 P.h11
    ((g9 _ (by decide +kernel) (by decide +kernel) (by decide +kernel) (by decide +kernel) (by decide +kernel) (by decide +kernel) (by decide +kernel) (by decide +kernel)).trans mc6) ((g9 _ (by decide +kernel) (by decide +kernel) (by decide +kernel) (by decide +kernel) (by decide +kernel) (by decide +kernel) (by decide +kernel) (by decide +kernel)).trans mm6)
    ((g9 _ (by decide +kernel) (by decide +kernel) (by decide +kernel) (by decide +kernel) (by decide +kernel) (by decide +kernel) (by decide +kernel) (by decide +kernel)).trans ah5) ((g9 _ (by decide +kernel) (by decide +kernel) (by decide +kernel) (by decide +kernel) (by decide +kernel) (by decide +kernel) (by decide +kernel) (by decide +kernel)).trans ah7) ml mr ⟨hmm.1, Int.lt_trans hm1.2 (by decide)⟩ (ahd_bnd hmm.1 (Int.lt_trans hm1.2 (by decide))) P.hfin hQ
  · obtain ⟨j, hj, x, hx, rfl⟩ := mem_heard.mp hd
    exact rng_add (P.bM x hx) (bC j hj) (by decide) (by decide)
  · obtain ⟨j, hj, k, hk, x, hx, rfl⟩ := mem_right.mp hd
    exact rng_add (P.bA x hx) (rng_add (bB j hj) (bC k hk) (a := 4) (b := 18) (by decide) (by decide)) (by decide) (by decide)
end
end Mine
end

section
open PySem PySem.W PySem.Calls PyProof.Rows
set_option Elab.async false
namespace Mine
set_option maxRecDepth 100000
set_option maxHeartbeats 8000000

theorem CellsAre.ten {cm : Str → Option Value} {n0 n1 n2 n3 n4 n5 n6 n7 n8 n9 : Str} {c0 c1 c2 c3 c4 c5 c6 c7 c8 c9 : Addr} {cells : List (Addr × Obj)} {P : Prop} (X : CellsAre cm [(n0, c0), (n1, c1), (n2, c2), (n3, c3), (n4, c4), (n5, c5), (n6, c6), (n7, c7), (n8, c8), (n9, c9)] cells)
    (h : ∀ o0 o1 o2 o3 o4 o5 o6 o7 o8 o9 : Obj, cells = [(c0, o0), (c1, o1), (c2, o2), (c3, o3), (c4, o4), (c5, o5), (c6, o6), (c7, o7), (c8, o8), (c9, o9)] → o0.data = .cell (cm n0) → o1.data = .cell (cm n1) → o2.data = .cell (cm n2) → o3.data = .cell (cm n3) → o4.data = .cell (cm n4) → o5.data = .cell (cm n5) → o6.data = .cell (cm n6) → o7.data = .cell (cm n7) → o8.data = .cell (cm n8) → o9.data = .cell (cm n9) → P) : P := by
  obtain ⟨o0, r0, q0, e0, X1⟩ := CellsAre.uncons X
  obtain ⟨o1, r1, q1, e1, X2⟩ := CellsAre.uncons X1
  obtain ⟨o2, r2, q2, e2, X3⟩ := CellsAre.uncons X2
  obtain ⟨o3, r3, q3, e3, X4⟩ := CellsAre.uncons X3
  obtain ⟨o4, r4, q4, e4, X5⟩ := CellsAre.uncons X4
  obtain ⟨o5, r5, q5, e5, X6⟩ := CellsAre.uncons X5
  obtain ⟨o6, r6, q6, e6, X7⟩ := CellsAre.uncons X6
  obtain ⟨o7, r7, q7, e7, X8⟩ := CellsAre.uncons X7
  obtain ⟨o8, r8, q8, e8, X9⟩ := CellsAre.uncons X8
  obtain ⟨o9, r9, q9, e9, X10⟩ := CellsAre.uncons X9
  exact h o0 o1 o2 o3 o4 o5 o6 o7 o8 o9 (q0.trans (congrArg (List.cons _) (q1.trans (congrArg (List.cons _) (q2.trans (congrArg (List.cons _) (q3.trans (congrArg (List.cons _) (q4.trans (congrArg (List.cons _) (q5.trans (congrArg (List.cons _) (q6.trans (congrArg (List.cons _) (q7.trans (congrArg (List.cons _) (q8.trans (congrArg (List.cons _) (q9.trans (congrArg (List.cons _) (CellsAre.unnil X10))))))))))))))))))))) e0 e1 e2 e3 e4 e5 e6 e7 e8 e9

section
theorem law_top (plain : ∀ a b c wd : Int, (1 ≤ a ∧ a ≤ 54) → (1 ≤ b ∧ b ≤ 20) → (1 ≤ c ∧ c ≤ 12) → (3 ≤ wd ∧ wd ≤ 42) → ∃ pa pb pc pm pa0 pb0 pc0 pm0 cnt, PL a b c wd pa pb pc pm pa0 pb0 pc0 pm0 cnt) : PySem.Challenge.rw_ta0035_01.Holds := by
  refine hd ?_
  k_fill
  intro w s0 s1 mg mb G Y fa o pm cd doc dV kV ho hd hcd hD hmg hg args vals as hpre hlay hrd hwl hlo
  have KX := km_in_of Y
  km_tabs Y
  have X := (Ground.X G).1
  have V := (Ground.X G).2
  refine Ground.open G ?_
  intro T B D TE TW
  try (refine guard_noD D (by decide +kernel) ?_; clear D)
  km_lay T hmg ho hd cd
  clear hmg
  wrow_args hpre hlay hrd hwl hlo
  refine enter_call ?_
  w_top on
  kn_posts
  have he := Dflts.none hD rfl
  subst he
  have he := Dflts.noKw hD
  subst he
  refine call_cellsN (by decide) ho (fd_plain hd) (Top.nolimit T) hcd rfl (kinds_of (by kinds_ok)) (by decide) fun h1 tk1 cells F N0 X0 => ?_
  refine CellsAre.ten X0 fun o0 o1 o2 o3 o4 o5 o6 o7 o8 o9 q e0 e1 e2 e3 e4 e5 e6 e7 e8 e9 => ?_
  subst q
  clear hd hD
  kn_ghosts F T
  k_drop
  clear ho
  try dsimp only
  try k_fold
  clear X0 hcd
  replace e0 : o0.data = .cell none := e0
  replace e1 : o1.data = .cell none := e1
  replace e2 : o2.data = .cell none := e2
  replace e3 : o3.data = .cell none := e3
  replace e4 : o4.data = .cell none := e4
  replace e5 : o5.data = .cell none := e5
  replace e6 : o6.data = .cell none := e6
  replace e7 : o7.data = .cell none := e7
  replace e8 : o8.data = .cell none := e8
  replace e9 : o9.data = .cell (some (.ref _)) := e9
  (with_reducible rename Fr _ _ _ _ => F1)
  (with_reducible rename News _ _ _ _ => N1)
  have hXX : (Mine.hd.heap_39 w.params).In (ghostOf s1.heap [(82, 78), (75, 71)]) := by assumption
  have n71 := (N1 (71, tabObj #[]) (by simp)).2.2
  have n78 := (N1 (78, tabObj #[]) (by simp)).2.2
  have l0 : @LT.lt Nat _ 78 s1.heap.objs.size ∧ @LT.lt Nat _ 71 s1.heap.objs.size := by assumption
  have hc71 : CodeHd (ghostOf s1.heap [(82, 78), (75, 71)]) 75 71 := by assumption
  have hc78 : CodeHd (ghostOf s1.heap [(82, 78), (75, 71)]) 82 78 := by assumption
  rename Top _ _ _ _ _ _ => T1
  rename IntsAre _ _ => hI
  have hIL := by first | exact (show Heap.IsList (ghostOf s1.heap [(82, 78), (75, 71)]) _ _ by assumption)
  have hAmb : ∀ env, Amb (callerA.deeper env) 300 := fun env => ⟨rfl, by show callerA.depth + 1 + 300 ≤ 900; decide, by show callerA.units + 3 + 10 * 300 ≤ 9000; decide⟩
  refine wpAny_mono (law_all plain ⟨⟨⟨hXX, T1⟩, n71, n78, hc71, hc78⟩, hAmb _, l0.1⟩ F1 N1 e0 e1 e2 e3 e4 e5 e6 e7 e8 e9 (by assumption) hI (by omega) ?_) (fun _ _ x => x) (fun _ _ x => x.elim)
  intro s' q1 q2 q3 q4 q5 q6
  refine ⟨⟨.inl ⟨.bool true, .bool true, [], rfl, fun _ => rfl, .bool true, by with_unfolding_all rfl, fun _ => ⟨List.nodup_nil, fun a ha => nomatch ha⟩⟩, q2, q6, q1.trans hg⟩, ?_⟩
  obtain ⟨p1, z1, _⟩ := q3
  obtain ⟨p2, z2, _⟩ := q4
  exact ⟨⟨p2, z2⟩, ⟨p1, z1⟩, trivial⟩
end
end Mine
end

section
open PySem PySem.W PySem.Calls PyProof.Rows
set_option Elab.async false
namespace Mine
set_option maxRecDepth 100000
set_option maxHeartbeats 8000000

noncomputable def hd0 (l : List Int) : Int := l.headD 0
noncomputable def adjB : List Nat → Bool
  | a :: b :: r => !(a == 49 && b == 49) && adjB (b :: r)
  | _ => true
noncomputable def figB (n : Int) (ps : List Int) : Bool := adjB (figs ps (hd0 ps)) && (((figs ps (hd0 ps)).getLast? == some 49) == (ahd (n + 1) == ahd n))
noncomputable def bndB (ps : List Int) (hi : Int) : Bool := ps.all fun d => decide (2 ≤ d) && decide (d ≤ hi) && decide (d ≤ hd0 ps)
noncomputable def sm (f : Int → Int) (l : List Int) : Int := (l.map f).sum
noncomputable def chk1 (n : Int) (hi : Int) : Bool := match plc fibs 64 n with
  | some ps => bndB ps hi && decide (ps ≠ []) && decide (ps.length ≤ 8) && decide ps.Nodup && decide (rst n = fb 30 + sm sg ps) && figB n ps && decide (sm fb ps = n) && decide (sm (fun d => fb (d - 1)) ps = ahd n)
  | none => false
noncomputable def chkM (m s1 : Int) : Bool := match plc fibs 64 m with
  | some ps => bndB ps 24 && decide (ps ≠ []) && decide (ps.length ≤ 16) && figB m ps && decide (sm fb ps = m) && decide (sm (fun d => fb (d + 1)) ps = s1)
  | none => false
noncomputable def chkH (h : List Int) (a b : Int) : Bool :=
  decide (sm fb h = a * b + a * ahd b + ahd a * b) && decide (rst (sm fb h) = fb 30 + sm sg h) && decide (0 ≤ sm fb h) && decide (sm fb h < 9000) && (h.all fun x => decide (h.count x ≤ 7)) && decide (sm (fun d => fb (d + 1)) h = sm fb h + ahd (sm fb h)) && chkM (sm fb h) (sm (fun d => fb (d + 1)) h)
noncomputable def pl (n : Int) : List Int := (plc fibs 64 n).getD []
noncomputable def chkG (i : Nat) : Bool := (List.range 6).all fun (a : Nat) => (List.range 20).all fun (b : Nat) => chkH (heardL (pl (((a + 6 * i : Nat) : Int) + 1)) (pl ((b : Int) + 1))) (((a + 6 * i : Nat) : Int) + 1) ((b : Int) + 1)

theorem g54 : ((List.range 54).all fun (a : Nat) => chk1 ((a : Int) + 1) 12) = true := by decide +kernel
theorem g12 : ((List.range 12).all fun (a : Nat) => chk1 ((a : Int) + 1) 6) = true := by decide +kernel
theorem gG0 : chkG 0 = true := by decide +kernel
theorem gG1 : chkG 1 = true := by decide +kernel
theorem gG2 : chkG 2 = true := by decide +kernel
theorem gG3 : chkG 3 = true := by decide +kernel
theorem gG4 : chkG 4 = true := by decide +kernel
theorem gG5 : chkG 5 = true := by decide +kernel
theorem gG6 : chkG 6 = true := by decide +kernel
theorem gG7 : chkG 7 = true := by decide +kernel
theorem gG8 : chkG 8 = true := by decide +kernel
end Mine
end

section
open PySem PySem.W PySem.Calls PyProof.Rows
set_option Elab.async false
namespace Mine
set_option maxRecDepth 100000
set_option maxHeartbeats 4000000

theorem fb_add : ∀ d : Nat, d < 25 → ∀ k : Nat, k < 8 → 1 ≤ k → fb ((d : Int) + k) = fb k * fb ((d : Int) + 1) + fb ((k : Int) - 1) * fb d := by decide +kernel

theorem fb_add' {d k : Int} (hd : 0 ≤ d ∧ d ≤ 24) (hk : 1 ≤ k ∧ k ≤ 7) : fb (d + k) = fb k * fb (d + 1) + fb (k - 1) * fb d := by
  have := fb_add d.toNat (by omega) k.toNat (by omega) (by omega)
  rwa [show (d.toNat : Int) = d by omega, show (k.toNat : Int) = k by omega] at this

theorem sum_add {α : Type} (f g : α → Int) : ∀ l : List α, (l.map fun x => f x + g x).sum = (l.map f).sum + (l.map g).sum
  | [] => rfl
  | a :: r => by
    simp only [List.map_cons, List.sum_cons, sum_add f g r]
    omega

theorem sum_mul {α : Type} (c : Int) (f : α → Int) : ∀ l : List α, (l.map fun x => f x * c).sum = (l.map f).sum * c
  | [] => by simp
  | a :: r => by
    simp only [List.map_cons, List.sum_cons, sum_mul c f r]
    rw [Int.add_mul]

theorem heard_cons (X : List Int) (k : Int) (r : List Int) : heardL X (k :: r) = (X.map fun d => d + k) ++ heardL X r := rfl

theorem heard_sum (f : Int → Int) (X : List Int) : ∀ pc : List Int, ((heardL X pc).map f).sum = (pc.map fun k => (X.map fun d => f (d + k)).sum).sum
  | [] => rfl
  | k :: r => by
    rw [heard_cons, List.map_append, List.sum_append, heard_sum f X r, List.map_map, List.map_cons, List.sum_cons]
    rfl

theorem right_cons (pa pc : List Int) (j : Int) (r : List Int) : rightL pa (j :: r) pc = (pc.map fun k => pa.map fun d => d + (j + k)).flatten ++ rightL pa r pc := rfl

theorem flat_sum (f : Int → Int) (g : Int → List Int) : ∀ pc : List Int, (((pc.map g).flatten).map f).sum = (pc.map fun k => ((g k).map f).sum).sum
  | [] => rfl
  | k :: r => by
    rw [List.map_cons, List.flatten_cons, List.map_append, List.sum_append, flat_sum f g r]
    rfl

theorem right_sum (f : Int → Int) (pa pc : List Int) : ∀ pb : List Int, ((rightL pa pb pc).map f).sum = (pc.map fun k => ((heardL pa pb).map fun h => f (h + k)).sum).sum
  | [] => by
    have : ∀ l : List Int, (l.map fun _ => (0 : Int)).sum = 0 := fun l => by
      induction l with
      | nil => rfl
      | cons a r ih => rw [List.map_cons, List.sum_cons, ih]; rfl
    exact (this pc).symm
  | j :: r => by
    rw [right_cons, List.map_append, List.sum_append, right_sum f pa pc r, flat_sum, ← sum_add]
    congr 1
    apply List.map_congr_left
    intro k _
    rw [heard_cons, List.map_append, List.sum_append, List.map_map, List.map_map]
    congr 1
    congr 1
    apply List.map_congr_left
    intro d _
    show f (d + (j + k)) = f (d + j + k)
    congr 1
    omega

theorem lin {k : Int} (hk : 1 ≤ k ∧ k ≤ 7) : ∀ X : List Int, (∀ d ∈ X, 0 ≤ d ∧ d ≤ 24) → (X.map fun d => fb (d + k)).sum = fb k * (X.map fun d => fb (d + 1)).sum + fb (k - 1) * (X.map fb).sum
  | [], _ => by simp
  | d :: r, h => by
    have h1 := lin hk r fun x hx => h x (.tail _ hx)
    have h2 := fb_add' (h d (.head _)) hk
    simp only [List.map_cons, List.sum_cons, h1, h2]
    grind

/-- the sums of two lists alike in their two sums -/
theorem sums_alike {X Y pc : List Int} {e : Int} (he : 0 ≤ e ∧ e ≤ 1) (hX : ∀ d ∈ X, 0 ≤ d ∧ d ≤ 24) (hY : ∀ d ∈ Y, 0 ≤ d ∧ d ≤ 24) (hc : ∀ k ∈ pc, 2 ≤ k ∧ k ≤ 6) (h0 : (X.map fb).sum = (Y.map fb).sum) (h1 : (X.map fun d => fb (d + 1)).sum = (Y.map fun d => fb (d + 1)).sum) :
    (pc.map fun k => (X.map fun d => fb (d + k + e)).sum).sum = (pc.map fun k => (Y.map fun d => fb (d + k + e)).sum).sum := by
  congr 1
  apply List.map_congr_left
  intro k hk
  have hk := hc k hk
  have e1 : (fun d : Int => fb (d + k + e)) = fun d => fb (d + (k + e)) := by funext d; congr 1; omega
  rw [e1, lin (by omega) X hX, lin (by omega) Y hY, h0, h1]

theorem last_sum {Y pc : List Int} {c c' m m' : Int} (hY : ∀ d ∈ Y, 0 ≤ d ∧ d ≤ 24) (hc : ∀ k ∈ pc, 2 ≤ k ∧ k ≤ 6) (h0 : (Y.map fb).sum = m) (h1 : (Y.map fun d => fb (d + 1)).sum = m + m') (c0 : (pc.map fb).sum = c) (c1 : (pc.map fun k => fb (k - 1)).sum = c') :
    (pc.map fun k => (Y.map fun d => fb (d + k)).sum).sum = m * c + m * c' + m' * c := by
  have e : (pc.map fun k => (Y.map fun d => fb (d + k)).sum) = pc.map fun k => fb k * (m + m') + fb (k - 1) * m := by
    apply List.map_congr_left
    intro k hk
    have hk := hc k hk
    rw [lin (by omega) Y hY, h0, h1]
  rw [e, sum_add, sum_mul, sum_mul, c0, c1]
  grind

/-! digits -/

theorem dv_range (wd : Int) (f : Nat → Int) (n : Nat) : dv wd ((List.range (n + 1)).map f) = f 0 + 2 ^ wd.toNat * dv wd ((List.range n).map fun i => f (i + 1)) := by
  rw [List.range_succ_eq_map, List.map_cons, List.map_map, dv]
  rfl

theorem dv_addf (wd : Int) : ∀ (n : Nat) (f g : Nat → Int), dv wd ((List.range n).map fun i => f i + g i) = dv wd ((List.range n).map f) + dv wd ((List.range n).map g)
  | 0, _, _ => rfl
  | n + 1, f, g => by
    rw [dv_range, dv_range, dv_range, dv_addf wd n, Int.mul_add]
    omega

theorem dv_zero (wd : Int) : ∀ n : Nat, dv wd ((List.range n).map fun _ => 0) = 0
  | 0 => rfl
  | n + 1 => by rw [dv_range, dv_zero wd n]; simp

theorem dv_delta (wd : Int) : ∀ (n h : Nat), h < n → dv wd ((List.range n).map fun i => if i = h then 1 else 0) = (2 ^ wd.toNat) ^ h
  | n + 1, 0, _ => by
    rw [dv_range]
    have : (fun i : Nat => if i + 1 = 0 then (1 : Int) else 0) = fun _ => 0 := by funext i; rw [if_neg (by omega)]
    rw [this, dv_zero]
    simp
  | n + 1, h + 1, hl => by
    rw [dv_range]
    have : (fun i : Nat => if i + 1 = h + 1 then (1 : Int) else 0) = fun i => if i = h then 1 else 0 := by funext i; congr 1; exact propext ⟨fun h => by omega, fun h => by omega⟩
    rw [this, dv_delta wd n h (by omega), if_neg (by omega), Int.pow_succ]
    rw [Int.mul_comm]
    omega

/-- a list's counts, as digits -/
theorem dv_count (wd : Int) (n : Nat) : ∀ l : List Int, (∀ h ∈ l, 0 ≤ h ∧ h < n) → dv wd ((List.range n).map fun (i : Nat) => ((l.count (i : Int) : Nat) : Int)) = (l.map fun h => (2 ^ wd.toNat : Int) ^ h.toNat).sum
  | [], _ => by
    have : (fun i : Nat => ((([] : List Int).count (i : Int) : Nat) : Int)) = fun _ => 0 := by funext i; rfl
    rw [this, dv_zero]
    rfl
  | h :: r, hb => by
    have ih := dv_count wd n r fun x hx => hb x (.tail _ hx)
    have hh := hb h (.head _)
    have e : (fun i : Nat => (((h :: r).count (i : Int) : Nat) : Int)) = fun (i : Nat) => ((r.count (i : Int) : Nat) : Int) + if i = h.toNat then 1 else 0 := by
      funext i
      rw [List.count_cons]
      by_cases hi : i = h.toNat
      · rw [if_pos hi, if_pos (by rw [hi, beq_iff_eq]; omega)]
        push_cast; rfl
      · rw [if_neg hi, if_neg (by rw [beq_iff_eq]; omega)]
        simp
    rw [e, dv_addf, ih, dv_delta wd n h.toNat (by omega), List.map_cons, List.sum_cons]
    omega

theorem bits_count {ps : List Int} (hn : ps.Nodup) (n : Nat) : bitsL ps n = (List.range n).map fun (i : Nat) => ((ps.count (i : Int) : Nat) : Int) := by
  unfold bitsL
  apply List.map_congr_left
  intro i _
  by_cases h : (i : Int) ∈ ps
  · rw [if_pos h, List.Nodup.count hn, if_pos h]; rfl
  · rw [if_neg h, List.count_eq_zero_of_not_mem h]; rfl

theorem digs_dv (wd : Int) : ∀ ds : List Int, (∀ d ∈ ds, 0 ≤ d ∧ d < 2 ^ wd.toNat) → digs wd ds.length (dv wd ds) = ds
  | [], _ => rfl
  | d :: r, h => by
    have ih := digs_dv wd r fun x hx => h x (.tail _ hx)
    have hd := h d (.head _)
    have hp : (0 : Int) < 2 ^ wd.toNat := Int.pow_pos (by decide)
    rw [List.length_cons, digs, dv]
    rw [Int.add_mul_emod_self_left, Int.emod_eq_of_lt hd.1 hd.2, Int.add_mul_ediv_left _ _ (Int.ne_of_gt hp), Int.ediv_eq_zero_of_lt hd.1 hd.2, Int.zero_add, ih]

theorem pow_sum_nonneg {B : Int} (hB : 0 < B) : ∀ l : List Int, 0 ≤ (l.map fun h => B ^ h.toNat).sum
  | [] => Int.le_refl _
  | h :: r => by
    rw [List.map_cons, List.sum_cons]
    have h1 := pow_sum_nonneg hB r
    have h2 : 0 < B ^ h.toNat := Int.pow_pos hB
    omega

theorem pow_sum_ge {B : Int} (hB : 0 < B) : ∀ (l : List Int) (x : Int), x ∈ l → B ^ x.toNat ≤ (l.map fun h => B ^ h.toNat).sum
  | h :: r, x, hx => by
    rw [List.map_cons, List.sum_cons]
    have h1 := pow_sum_nonneg hB r
    have h2 : 0 < B ^ h.toNat := Int.pow_pos hB
    rcases List.mem_cons.mp hx with rfl | hx
    · omega
    · have := pow_sum_ge hB r x hx
      omega

theorem prod_heard {B : Int} (pa : List Int) (ha : ∀ d ∈ pa, 0 ≤ d) : ∀ pb : List Int, (∀ j ∈ pb, 0 ≤ j) → (pa.map fun d => B ^ d.toNat).sum * (pb.map fun j => B ^ j.toNat).sum = ((heardL pa pb).map fun h => B ^ h.toNat).sum
  | [], _ => by simp [heardL]
  | j :: r, hb => by
    rw [heard_cons, List.map_append, List.sum_append, ← prod_heard pa ha r fun x hx => hb x (.tail _ hx), List.map_cons, List.sum_cons, Int.mul_add, List.map_map]
    congr 1
    rw [← sum_mul]
    congr 1
    apply List.map_congr_left
    intro d hd
    have h1 := ha d hd
    have h2 := hb j (.head _)
    show B ^ d.toNat * B ^ j.toNat = B ^ (d + j).toNat
    rw [← Int.pow_add, Int.toNat_add h1 h2]
end Mine
end

section
open PySem PySem.W PySem.Calls PyProof.Rows PySem.Builtin.Str
set_option Elab.async false
namespace Mine
set_option maxRecDepth 100000
set_option maxHeartbeats 4000000

theorem adj_no : ∀ (l : List Nat), adjB l = true → ∀ i, ¬ (l[i]? = some 49 ∧ l[i + 1]? = some 49)
  | [], _, i => fun h => by simp at h
  | [a], _, i => fun h => by simp at h
  | a :: b :: r, hb, i => by
    rw [adjB, Bool.and_eq_true] at hb
    intro h
    cases i with
    | zero =>
      have h1 : a = 49 := by simpa using h.1
      have h2 : b = 49 := by simpa using h.2
      have := hb.1
      rw [h1, h2] at this
      cases this
    | succ i => exact adj_no (b :: r) hb.2 i ⟨by simpa using h.1, by simpa using h.2⟩

theorem sub_list {l y : List Nat} {i : Nat} : subAt (mkS l) (mkS y) i = decide ((l.drop i).take y.length = y) := by
  unfold subAt
  rw [Bool.eq_iff_iff, beq_iff_eq, decide_eq_true_iff]
  show l.toArray.extract i (i + y.toArray.size) = y.toArray ↔ _
  rw [← Array.toList_inj, Array.toList_extract, List.extract_eq_drop_take, List.size_toArray, Nat.add_sub_cancel_left]

theorem no11_of {l : List Nat} (h : adjB l = true) (i : Nat) : subAt (mkS l) (Str.ofString "11") i = false := by
  have e : Str.ofString "11" = mkS [49, 49] := by decide +kernel
  rw [e, sub_list]
  apply decide_eq_false
  intro h2
  have h2 : (l.drop i).take 2 = [49, 49] := h2
  refine adj_no l h i ⟨?_, ?_⟩
  · have := congrArg (fun z : List Nat => z[0]?) h2
    rw [List.getElem?_take_of_lt (by decide), List.getElem?_drop] at this
    simpa using this
  · have := congrArg (fun z : List Nat => z[1]?) h2
    rw [List.getElem?_take_of_lt (by decide), List.getElem?_drop] at this
    simpa using this

theorem ends1 (l : List Nat) : Txt.endswith (mkS l) (Str.ofString "1") = (l.getLast? == some 49) := by
  have e : Str.ofString "1" = mkS [49] := by decide +kernel
  rw [e]
  unfold Txt.endswith
  rcases List.eq_nil_or_concat l with rfl | ⟨r, z, rfl⟩
  · rfl
  · have h1 : (mkS (r.concat z)).length = r.length + 1 := by
      show (r.concat z).toArray.size = _
      rw [List.size_toArray, List.length_concat]
    have h2 : (mkS [49]).length = 1 := rfl
    rw [sub_list, h1, h2, List.concat_eq_append, Nat.add_sub_cancel, List.drop_left, List.getLast?_append]
    simp
    rfl

theorem fig_ok {n p0 : Int} {ps : List Int} (h : figB n ps = true) (h0 : ps[0]? = some p0) (hp : 2 ≤ p0 ∧ p0 ≤ 31) (hn : 0 ≤ n ∧ n + 1 < 100000) : FigOk n ps p0 := by
  have e : hd0 ps = p0 := by
    cases ps with
    | nil => cases h0
    | cons a r => cases h0; rfl
  unfold figB at h
  rw [e, Bool.and_eq_true] at h
  exact ⟨h0, hp, hn, fun i _ => no11_of h.1 i, by rw [ends1]; exact beq_iff_eq.mp h.2⟩

theorem bnd_of {ps : List Int} {hi : Int} (h : bndB ps hi = true) : ∀ d ∈ ps, 2 ≤ d ∧ d ≤ hi ∧ d ≤ hd0 ps := fun d hd => by
  have := List.all_eq_true.mp h d hd
  simp only [Bool.and_eq_true, decide_eq_true_eq] at this
  exact ⟨this.1.1, this.1.2, this.2⟩

theorem hd_get {ps : List Int} (h : ps ≠ []) : ps[0]? = some (hd0 ps) := by
  cases ps with
  | nil => exact absurd rfl h
  | cons a r => rfl

structure C1 (n hi : Int) (ps : List Int) : Prop where
  p : plc fibs 64 n = some ps
  b : ∀ d ∈ ps, 2 ≤ d ∧ d ≤ hi ∧ d ≤ hd0 ps
  h : ps[0]? = some (hd0 ps)
  l : ps.length ≤ 8
  nd : ps.Nodup
  r : rst n = fb 30 + (ps.map sg).sum
  f : figB n ps = true
  s : (ps.map fb).sum = n
  t : (ps.map fun d => fb (d - 1)).sum = ahd n

theorem c1_of {n hi : Int} (h : chk1 n hi = true) : C1 n hi (pl n) := by
  unfold chk1 at h
  unfold pl
  split at h
  · rename_i ps hp
    rw [hp]
    show C1 _ _ ps
    simp only [Bool.and_eq_true, decide_eq_true_eq] at h
    obtain ⟨⟨⟨⟨⟨⟨⟨h1, h2⟩, h3⟩, h4⟩, h5⟩, h6⟩, h7⟩, h8⟩ := h
    exact ⟨hp, bnd_of h1, hd_get h2, h3, h4, h5, h6, h7, h8⟩
  · cases h

structure CM (m s1 : Int) (ps : List Int) : Prop where
  p : plc fibs 64 m = some ps
  b : ∀ d ∈ ps, 2 ≤ d ∧ d ≤ 24 ∧ d ≤ hd0 ps
  h : ps[0]? = some (hd0 ps)
  l : ps.length ≤ 16
  f : figB m ps = true
  s : (ps.map fb).sum = m
  t : (ps.map fun d => fb (d + 1)).sum = s1

theorem cM_of {m s1 : Int} (h : chkM m s1 = true) : CM m s1 (pl m) := by
  unfold chkM at h
  unfold pl
  split at h
  · rename_i ps hp
    rw [hp]
    show CM _ _ ps
    simp only [Bool.and_eq_true, decide_eq_true_eq] at h
    obtain ⟨⟨⟨⟨⟨h1, h2⟩, h3⟩, h4⟩, h5⟩, h6⟩ := h
    exact ⟨hp, bnd_of h1, hd_get h2, h3, h4, h5, h6⟩
  · cases h

structure CH (h : List Int) (a b : Int) : Prop where
  e : (h.map fb).sum = a * b + a * ahd b + ahd a * b
  r : rst (h.map fb).sum = fb 30 + (h.map sg).sum
  n : 0 ≤ (h.map fb).sum ∧ (h.map fb).sum < 9000
  c : ∀ x ∈ h, h.count x ≤ 7
  s : (h.map fun d => fb (d + 1)).sum = (h.map fb).sum + ahd (h.map fb).sum
  m : CM (h.map fb).sum (h.map fun d => fb (d + 1)).sum (pl (h.map fb).sum)

theorem cH_of {h : List Int} {a b : Int} (hh : chkH h a b = true) : CH h a b := by
  unfold chkH at hh
  simp only [Bool.and_eq_true, decide_eq_true_eq] at hh
  obtain ⟨⟨⟨⟨⟨⟨h1, h2⟩, h3⟩, h4⟩, h5⟩, h6⟩, h7⟩ := hh
  exact ⟨h1, h2, ⟨h3, h4⟩, fun x hx => of_decide_eq_true (List.all_eq_true.mp h5 x hx), h6, cM_of h7⟩

theorem get54 {n : Int} (h : 1 ≤ n ∧ n ≤ 54) : C1 n 12 (pl n) := by
  have := List.all_eq_true.mp g54 (n - 1).toNat (List.mem_range.mpr (by omega))
  rw [show (((n - 1).toNat : Nat) : Int) + 1 = n by omega] at this
  exact c1_of this
theorem get12 {n : Int} (h : 1 ≤ n ∧ n ≤ 12) : C1 n 6 (pl n) := by
  have := List.all_eq_true.mp g12 (n - 1).toNat (List.mem_range.mpr (by omega))
  rw [show (((n - 1).toNat : Nat) : Int) + 1 = n by omega] at this
  exact c1_of this

theorem gAll : ∀ i : Nat, i < 9 → chkG i = true :=
  lt_split (lt_split (lt_split (lt_split (lt_split (lt_split (lt_split (lt_split (lt_split (fun _ h => absurd h (Nat.not_lt_zero _)) gG0) gG1) gG2) gG3) gG4) gG5) gG6) gG7) gG8

theorem getH {a b : Int} (ha : 1 ≤ a ∧ a ≤ 54) (hb : 1 ≤ b ∧ b ≤ 20) : CH (heardL (pl a) (pl b)) a b := by
  have h1 := gAll ((a - 1).toNat / 6) (by omega)
  have h2 := List.all_eq_true.mp (List.all_eq_true.mp h1 ((a - 1).toNat % 6) (List.mem_range.mpr (by omega))) (b - 1).toNat (List.mem_range.mpr (by omega))
  rw [show ((((a - 1).toNat % 6 + 6 * ((a - 1).toNat / 6) : Nat)) : Int) + 1 = a by omega, show (((b - 1).toNat : Nat) : Int) + 1 = b by omega] at h2
  exact cH_of h2

theorem intBits_ge {x : Int} {k : Nat} (h : (2 : Int) ^ k ≤ x) : k + 1 ≤ Builtin.Int.intBits x := by
  have h0 : (0 : Int) < 2 ^ k := Int.pow_pos (by decide)
  unfold Builtin.Int.intBits
  rw [if_neg (by rw [beq_iff_eq]; omega)]
  have e : (x.natAbs : Int) = x := Int.natAbs_of_nonneg (by omega)
  have h2 : 2 ^ k ≤ x.natAbs := by
    have e2 : ((2 ^ k : Nat) : Int) = 2 ^ k := by push_cast; rfl
    omega
  have := (Nat.le_log2 (by omega)).mpr h2
  omega
end Mine
end

section
open PySem PySem.W PySem.Calls PyProof.Rows PySem.Builtin.Str
set_option Elab.async false
namespace Mine
set_option maxRecDepth 100000
set_option maxHeartbeats 4000000

theorem pow_two (k : Nat) : (2 : Int) ^ k = ((2 ^ k : Nat) : Int) := by push_cast; rfl

theorem count_small {h : List Int} {wd : Int} (hw : 3 ≤ wd) (hc : ∀ x ∈ h, h.count x ≤ 7) (i : Nat) : 0 ≤ ((h.count (i : Int) : Nat) : Int) ∧ ((h.count (i : Int) : Nat) : Int) < 2 ^ wd.toNat := by
  refine ⟨Int.natCast_nonneg _, ?_⟩
  have h8 : (2 : Int) ^ 3 ≤ 2 ^ wd.toNat := by
    rw [pow_two, pow_two]
    exact Int.ofNat_le.mpr (Nat.pow_le_pow_right (by decide) (by omega))
  have e8 : (2 : Int) ^ 3 = 8 := rfl
  by_cases hm : (i : Int) ∈ h
  · have := hc _ hm; omega
  · rw [List.count_eq_zero_of_not_mem hm]; omega

theorem in_rng {d n : Int} (h0 : 0 ≤ d) (h : d ≤ n) : 0 ≤ d ∧ d < ((n + 1).toNat : Int) :=
  ⟨h0, by rw [Int.toNat_of_nonneg (Int.le_trans h0 (Int.le_trans h (Int.le_add_of_nonneg_right (by decide))))]; exact Int.lt_add_one_of_le h⟩
theorem pos2 {d : Int} (h : 2 ≤ d) : 0 ≤ d := Int.le_trans (by decide) h

/-- the digits' part -/
theorem dig_part {pa pb : List Int} {wd pa0 pb0 : Int} (hw : 3 ≤ wd ∧ wd ≤ 42) (na : pa.Nodup) (nb : pb.Nodup) (ha : ∀ d ∈ pa, 2 ≤ d ∧ d ≤ 12 ∧ d ≤ pa0) (hb : ∀ d ∈ pb, 2 ≤ d ∧ d ≤ 12 ∧ d ≤ pb0) (ia : pa0 ∈ pa) (ib : pb0 ∈ pb) (hc : ∀ x ∈ heardL pa pb, (heardL pa pb).count x ≤ 7) :
    let P := dv wd (bitsL pa (pa0 + 1).toNat) * dv wd (bitsL pb (pb0 + 1).toNat)
    0 ≤ P ∧ Builtin.Int.intBits (dv wd (bitsL pa (pa0 + 1).toNat)) ≤ 2 ^ 20 ∧ Builtin.Int.intBits (dv wd (bitsL pb (pb0 + 1).toNat)) ≤ 2 ^ 20 ∧ Builtin.Int.intBits P ≤ 4096 ∧
      ((pa0 + pb0 + 1).toNat : Int) = ((Builtin.Int.intBits P : Int) + wd - 1).fdiv wd ∧ digs wd (pa0 + pb0 + 1).toNat P = (List.range (pa0 + pb0 + 1).toNat).map fun (i : Nat) => (((heardL pa pb).count (i : Int) : Nat) : Int) := by
  intro P
  have qa := ha pa0 ia
  have qb := hb pb0 ib
  have hB : (0 : Int) < 2 ^ wd.toNat := Int.pow_pos (by decide)
  have ea : dv wd (bitsL pa (pa0 + 1).toNat) = (pa.map fun h => (2 ^ wd.toNat : Int) ^ h.toNat).sum := by
    rw [bits_count na, dv_count wd _ pa fun d hd => in_rng (pos2 (ha d hd).1) (ha d hd).2.2]
  have eb : dv wd (bitsL pb (pb0 + 1).toNat) = (pb.map fun h => (2 ^ wd.toNat : Int) ^ h.toNat).sum := by
    rw [bits_count nb, dv_count wd _ pb fun d hd => in_rng (pos2 (hb d hd).1) (hb d hd).2.2]
  have eP : P = dv wd ((List.range (pa0 + pb0 + 1).toNat).map fun (i : Nat) => (((heardL pa pb).count (i : Int) : Nat) : Int)) := by
    show _ * _ = _
    rw [ea, eb, prod_heard pa (fun d hd => pos2 (ha d hd).1) pb (fun d hd => pos2 (hb d hd).1), dv_count wd _ (heardL pa pb) fun h hh => by
      obtain ⟨j, hj, x, hx, rfl⟩ := mem_heard.mp hh
      exact in_rng (Int.add_nonneg (pos2 (ha x hx).1) (pos2 (hb j hj).1)) (Int.add_le_add (ha x hx).2.2 (hb j hj).2.2)]
  have hsm : ∀ d ∈ (List.range (pa0 + pb0 + 1).toNat).map fun (i : Nat) => (((heardL pa pb).count (i : Int) : Nat) : Int), 0 ≤ d ∧ d < 2 ^ wd.toNat := fun d hd => by
    obtain ⟨i, _, rfl⟩ := List.mem_map.mp hd
    exact count_small hw.1 hc i
  have bd := dv_bound hsm
  rw [← eP, List.length_map, List.length_range] at bd
  have lo : (2 : Int) ^ (wd.toNat * (pa0 + pb0).toNat) ≤ P := by
    have := pow_sum_ge hB (heardL pa pb) (pa0 + pb0) (mem_heard.mpr ⟨pb0, ib, pa0, ia, rfl⟩)
    rw [Int.pow_mul]
    rwa [← prod_heard pa (fun d hd => pos2 (ha d hd).1) pb (fun d hd => pos2 (hb d hd).1), ← ea, ← eb] at this
  have b1 := intBits_ge lo
  have b2 := intBits_lt bd.1 bd.2
  have ba := dv_bound (bitsL_small (ps := pa) (n := (pa0 + 1).toNat) (wd := wd) (Int.le_trans (by decide) hw.1))
  have bb := dv_bound (bitsL_small (ps := pb) (n := (pb0 + 1).toNat) (wd := wd) (Int.le_trans (by decide) hw.1))
  have la : (bitsL pa (pa0 + 1).toNat).length = (pa0 + 1).toNat := by rw [bitsL, List.length_map, List.length_range]
  have lb : (bitsL pb (pb0 + 1).toNat).length = (pb0 + 1).toNat := by rw [bitsL, List.length_map, List.length_range]
  rw [la] at ba
  rw [lb] at bb
  have ca := intBits_lt ba.1 ba.2
  have cb := intBits_lt bb.1 bb.2
  have m1 : (pa0 + 1).toNat * wd.toNat ≤ 13 * 42 := Nat.mul_le_mul (Int.toNat_le.mpr (Int.add_le_add_right qa.2.1 1)) (Int.toNat_le.mpr hw.2)
  have m2 : (pb0 + 1).toNat * wd.toNat ≤ 13 * 42 := Nat.mul_le_mul (Int.toNat_le.mpr (Int.add_le_add_right qb.2.1 1)) (Int.toNat_le.mpr hw.2)
  have m3 : (pa0 + pb0 + 1).toNat * wd.toNat ≤ 25 * 42 := Nat.mul_le_mul (Int.toNat_le.mpr (Int.add_le_add_right (Int.add_le_add qa.2.1 qb.2.1) 1)) (Int.toNat_le.mpr hw.2)
  refine ⟨bd.1, Nat.le_trans ca (Nat.le_trans m1 (by decide)), Nat.le_trans cb (Nat.le_trans m2 (by decide)), Nat.le_trans b2 (Nat.le_trans m3 (by decide)), ?_, ?_⟩
  · rw [Int.fdiv_eq_ediv_of_nonneg _ (Int.le_trans (by decide) hw.1)]
    have e1 : (pa0 + pb0 + 1).toNat = (pa0 + pb0).toNat + 1 := Int.toNat_add (Int.add_nonneg (pos2 qa.1) (pos2 qb.1)) (by decide)
    rw [e1] at b2 ⊢
    generalize (pa0 + pb0).toNat = n at b1 b2 ⊢
    generalize Builtin.Int.intBits P = t at b1 b2 ⊢
    obtain ⟨w, rfl⟩ : ∃ w : Nat, wd = w := ⟨wd.toNat, (Int.toNat_of_nonneg (Int.le_trans (by decide) hw.1)).symm⟩
    have e2 : ((w : Int)).toNat = w := Int.toNat_natCast w
    rw [e2] at b1 b2
    have h1 : (w : Int) * n + 1 ≤ t := by have : ((w * n + 1 : Nat) : Int) ≤ t := Int.ofNat_le.mpr b1; push_cast at this; exact this
    have h2 : (t : Int) ≤ w * n + w := by
      have : (t : Int) ≤ (((n + 1) * w : Nat) : Int) := Int.ofNat_le.mpr b2
      push_cast at this
      rw [Int.add_mul, Int.one_mul, Int.mul_comm (n : Int) w] at this
      exact this
    have hq : (t : Int) + w - 1 = (t - w * n - 1) + w * ((n : Int) + 1) := by rw [Int.mul_add]; omega
    rw [hq, Int.add_mul_ediv_left _ _ (by omega), Int.ediv_eq_zero_of_lt (by omega) (by omega)]
    push_cast
    omega
  · rw [eP]
    have := digs_dv wd _ hsm
    rwa [List.length_map, List.length_range] at this

theorem plain (a b c wd : Int) (ha : 1 ≤ a ∧ a ≤ 54) (hb : 1 ≤ b ∧ b ≤ 20) (hc : 1 ≤ c ∧ c ≤ 12) (hw : 3 ≤ wd ∧ wd ≤ 42) : ∃ pa pb pc pm pa0 pb0 pc0 pm0 cnt, PL a b c wd pa pb pc pm pa0 pb0 pc0 pm0 cnt := by
  have xa := get54 ha
  have xb := get54 (n := b) (by omega)
  have xc := get12 hc
  have xh := getH ha hb
  have xm := xh.m
  have ia : hd0 (pl a) ∈ pl a := List.mem_of_getElem? xa.h
  have ib : hd0 (pl b) ∈ pl b := List.mem_of_getElem? xb.h
  have ic : hd0 (pl c) ∈ pl c := List.mem_of_getElem? xc.h
  have im := List.mem_of_getElem? xm.h
  have qa := xa.b _ ia
  have qb := xb.b _ ib
  have qc := xc.b _ ic
  have qm := xm.b _ im
  have dp := dig_part hw xa.nd xb.nd xa.b xb.b ia ib xh.c
  have hX : ∀ d ∈ pl (((heardL (pl a) (pl b)).map fb).sum), 0 ≤ d ∧ d ≤ 24 := fun d hd => by have := xm.b d hd; omega
  have hY : ∀ d ∈ heardL (pl a) (pl b), 0 ≤ d ∧ d ≤ 24 := fun d hd => by
    obtain ⟨j, hj, x, hx, rfl⟩ := mem_heard.mp hd
    have := xa.b x hx
    have := xb.b j hj
    omega
  have hC : ∀ k ∈ pl c, 2 ≤ k ∧ k ≤ 6 := fun k hk => by have := xc.b k hk; omega
  refine ⟨pl a, pl b, pl c, pl (((heardL (pl a) (pl b)).map fb).sum), hd0 (pl a), hd0 (pl b), hd0 (pl c), hd0 (pl (((heardL (pl a) (pl b)).map fb).sum)), (hd0 (pl a) + hd0 (pl b) + 1).toNat, ?_⟩
  exact {
    hpa := xa.p
    hpb := xb.p
    hpc := xc.p
    hpm := xm.p
    fA := fig_ok xa.f xa.h (by omega) (by omega)
    fB := fig_ok xb.f xb.h (by omega) (by omega)
    fC := fig_ok xc.f xc.h (by omega) (by omega)
    fM := fig_ok xm.f xm.h (by omega) (by have := xh.n; omega)
    bA := fun d hd => ⟨(xa.b d hd).1, (xa.b d hd).2.1⟩
    bB := xb.b
    bC := xc.b
    bM := fun d hd => ⟨(xm.b d hd).1, (xm.b d hd).2.1⟩
    lA := xa.l
    lB := xb.l
    lC := xc.l
    lM := xm.l
    eM := xh.e
    rA := xa.r
    rB := xb.r
    rC := xc.r
    rM := xh.r
    hprod := dp.1
    hb1 := dp.2.1
    hb2 := dp.2.2.1
    hbits := dp.2.2.2.1
    hcnt := dp.2.2.2.2.1
    hc64 := by omega
    hdig := dp.2.2.2.2.2
    h01 := by
      rw [heard_sum, right_sum]
      exact sums_alike (by decide) hX hY hC xm.s xm.t
    h11 := by
      rw [heard_sum, right_sum]
      exact sums_alike (by decide) hX hY hC xm.s xm.t
    hfin := by
      rw [right_sum]
      exact last_sum hY hC rfl xh.s xc.s xc.t }
end Mine
end
end

theorem PySem.Challenge.cw_ta0035_01_holds : PySem.Challenge.rw_ta0035_01.Holds :=
  Mine.law_top Mine.plain
