import PyProof.Rows.All
import Wide.All
import OpenK.AllK
import Wide.FinOn
import PySem.Challenge.RW_et5026_01
set_option Elab.async false
set_option maxRecDepth 100000
section
open PySem PySem.W PyProof.Rows
set_option Elab.async false
namespace Mine
set_option maxRecDepth 100000 in
set_option maxHeartbeats 8000000 in
open_top hd for PySem.Challenge.rw_et5026_01
end Mine

end
section
open PySem PySem.W PySem.Calls PyProof.Rows
set_option Elab.async false
set_option maxRecDepth 100000
namespace Mine

abbrev Ar (dp un : Nat) (fr : Option (List Env)) (gd : Option (List Code)) : Around := { handled := none, depth := dp, frames := fr, guards := gd, units := un }

theorem enterN {K : Frag} {prog : Program} {w : World} {A : Around} {s : Shared} {R : Result → Shared → Prop} {h₀ : Heap} {news : List (Addr × Obj)} {p : Program} {loose : List Str} {mean : ExcName → Option Value} {mg mb : Str → Option Value}
    {name qual : Str} {params : Arguments} {body : List Stmt} {scope : Scope} {dV kV doc pm cdv ct oc : Value} {an od : Option Addr} {osl : Array (Option Value)} {f : Addr} {args : Args} {binds : List (Str × Value)}
    (hk : h₀.StaysIn s.heap) (X : K.In h₀) (T : Top p loose mean mg mb h₀) (N : ∀ q ∈ news, s.heap.get? q.1 = some q.2 ∧ h₀.get? q.1 = none)
    (ho : K.lookup f = some ⟨oc, od, .func (fnOf name qual params body scope dV kV doc pm an cdv ct), osl⟩) (hcd : codeIn K cdv qual = true) (hroom : A.depth < recursionLimit)
    (hbind : BindsTo s (fnOf name qual params body scope dV kV doc pm an cdv ct) args binds) (hloc : ∀ y ∈ binds, scope.names.lookup y.1 = some .local)
    (h : ∀ g L' h₁, g = hideAll s.heap (news.map (·.1)) → L' = s.heap.objs.size → Fr g L' h₁ (fun y => binds.reverse.lookup y) → News g L' h₁ news → K.In g → Top p loose mean mg mb g →
      wpAny (model prog w) (A.deeper (envOf qual scope L' f cdv)) (execs body (envOf qual scope L' f cdv))
        (fun fl s' => R (.ok (.ret (match fl with | .ret v => v | _ => .none))) s') (fun _ _ => False) { s with heap := h₁, toks := s.toks + binds.length })
    (hco : scope.isCoroutine = false) (hgen : scope.isGenerator = false) (hk' : scope.kind = .function) (hcell : ∀ x ∈ scope.names, x.2 ≠ .cell) :
    codeAny (model prog w) A (.call (.ref f) args) R s := by
  refine codeAny_call_def (fd := fnOf name qual params body scope dV kV doc pm an cdv ct) (body := body) (binds := binds) hroom (hk _ _ (X _ _ ho)) rfl (T.nolimit.keeps hk) (codeRec_of (X.keeps hk) hcd) rfl hbind hcell hloc (fun h₁ hns hk₁ => ?_) hco hgen hk'
  have nm : ∀ b o, h₀.get? b = some o → b ∉ news.map (·.1) := fun b o e q => by
    obtain ⟨p, hp, rfl⟩ := List.mem_map.mp q
    rw [(N p hp).2] at e; cases e
  have st : h₀.StaysIn (hideAll s.heap (news.map (·.1))) := fun b o e => hideAll_get _ (hk b o e) (nm b o e)
  refine wpAny_mono (h _ s.heap.objs.size h₁ rfl rfl ⟨hns, fun b o e => hk₁ b o (of_hideAll _ e), Nat.le_of_eq (hideAll_size _ _)⟩
    (fun p hp => ⟨hk₁ _ _ (N p hp).1, Nat.ne_of_lt (Heap.lt_size (N p hp).1), hideAll_none _ (List.mem_map_of_mem hp)⟩) (X.keeps st) (T.keeps st)) (fun _ _ x => x) (fun _ _ x => x.elim)

theorem fm_lo {a b : Int} (h : 0 < b) : 0 ≤ a.fmod b := Int.fmod_nonneg_of_pos a h
theorem fm_hi {a b : Int} (h : 0 < b) : a.fmod b < b := Int.fmod_lt_of_pos a h

theorem fill : (PySem.Challenge.rw_et5026_01 = PySem.Challenge.rw_et5026_01) ∧ (∀ P, hd.heap_39 P = hd.heap_39 P) := by
  k_fill
  exact ⟨rfl, fun _ => rfl⟩

section
variable {prog : Program} {w : World} {dp un : Nat} {fr : Option (List Env)} {gd : Option (List Code)} {s : Shared} {h₀ : Heap} {mean : ExcName → Option Value} {mg mb : Str → Option Value} {R : Result → Shared → Prop}

theorem next_code {st sc : Addr} {i x many : Int} {t1 t2 t3 : Tok} {n : Nat} {vs : List Value} {ns : List Int}
    (hk : h₀.StaysIn s.heap) (X : (hd.heap_39 w.params).In h₀) (T : Top hd.view_39 (looseW hd.view_39 []) mean mg mb h₀) (hdp : dp + 10 < recursionLimit) (hun : un + 200 < cLine)
    (hst : s.heap.get? st = some (listOf #[.ref sc, .int i t1, .int x t2] n)) (hst0 : h₀.get? st = none)
    (hsc : s.heap.IsList sc vs.toArray) (hne : sc ≠ st) (hi : IntsAre vs ns) (hlen : ns.length ≤ 64)
    (hi0 : 0 ≤ i) (hx0 : 0 ≤ x) (hx1 : x < 2147483647) (hm : 0 < many) (hm1 : many < 1000)
    (hret : ∀ r i' x' t t1' t2' n' h' tk', 0 ≤ r → r < many → 0 ≤ i' → 0 ≤ x' → x' < 2147483647 → 
      (∀ b o, b ≠ st → s.heap.get? b = some o → h'.get? b = some o) → h'.get? st = some (listOf #[.ref sc, .int i' t1', .int x' t2'] n') →
      R (.ok (.ret (.int r t))) { s with heap := h', toks := tk' }) :
    codeAny (model prog w) (Ar dp un fr gd) (.call (.ref 28) ⟨[.ref st, .int many t3], []⟩) R s := by
  refine enterN (K := hd.heap_39 w.params) (binds := [(Str.ofString "state", .ref st), (Str.ofString "many", .int many t3)]) (news := [(st, listOf #[.ref sc, .int i t1, .int x t2] n)]) hk X T (by intro q hq; rw [List.mem_singleton.mp hq]; exact ⟨hst, hst0⟩) (by k_is) (by k_is) (by show dp < recursionLimit; omega) (BindsTo.of_eq rfl) (locs rfl) ?_ rfl rfl rfl (by decide)
  intro g L' h₁ hg hL F N X' T'
  have hscg : g.IsList sc vs.toArray := by
    obtain ⟨o, ho, r⟩ := hsc
    exact ⟨o, by rw [hg]; exact hideAll_get _ ho (by simpa using hne), r⟩
  w_on
  w_strict (k_steps; all_goals dsimp only)
  · rename_i F' N'
    refine hret _ _ _ _ _ _ _ _ _ (fm_lo hm) (fm_hi hm) (by omega) (fm_lo (by decide)) (fm_hi (by decide)) ?_ ((N' _ (.head _)).1)
    intro b o hb e
    exact F'.keep b o (by rw [hg]; exact hideAll_get _ e (by simpa using hb))
  · rename_i F' N'
    refine hret _ _ _ _ _ _ _ _ _ (fm_lo hm) (fm_hi hm) (by omega) (fm_lo (by decide)) (fm_hi (by decide)) ?_ ((N' _ (.head _)).1)
    intro b o hb e
    exact F'.keep b o (by rw [hg]; exact hideAll_get _ e (by simpa using hb))

def Sc (h : Heap) (sc : Addr) : Prop := ∃ vs ns, h.IsList sc vs.toArray ∧ IntsAre vs ns ∧ ns.length ≤ 64
theorem Sc.keeps {h h' : Heap} {sc : Addr} (k : ∀ b o, h.get? b = some o → h'.get? b = some o) : Sc h sc → Sc h' sc := fun ⟨vs, ns, ⟨o, ho, r⟩, b, c⟩ => ⟨vs, ns, ⟨o, k _ _ ho, r⟩, b, c⟩
structure StF (i x : Int) : Prop where
  a : 0 ≤ i
  b : 0 ≤ x
  c : x < 2147483647
theorem upd_frame {h₀ h h' : Heap} {L st : Addr} {m : Str → Option Value} {news news' : List (Addr × Obj)} {o o' : Obj} (F : Fr h₀ L h m) (N : News h₀ L h news) (U : Upd st o o' news news')
    (hk : ∀ b x, b ≠ st → h.get? b = some x → h'.get? b = some x) (hs : h'.get? st = some o') : Fr h₀ L h' m ∧ News h₀ L h' news' := by
  obtain ⟨pre, post, rfl, rfl, a, b⟩ := U.split
  have D := N (st, o) (by simp)
  obtain ⟨oL, es, ep, hL, r⟩ := F.ns
  refine ⟨⟨⟨oL, es, ep, hk _ _ (Ne.symm D.2.1) hL, r⟩, fun c x q => hk _ _ (fun z => ?_) (F.keep c x q), F.above⟩, fun p hp => ?_⟩
  · have := D.2.2; rw [← z, q] at this; cases this
  · rcases List.mem_append.mp hp with q | q
    · have P := N p (List.mem_append_left _ q); exact ⟨hk _ _ (a p q) P.1, P.2⟩
    · rcases List.mem_cons.mp q with rfl | q
      · exact ⟨hs, D.2⟩
      · have P := N p (List.mem_append_right _ (.tail _ q)); exact ⟨hk _ _ (b p q) P.1, P.2⟩

theorem next_K {E : Value → Shared → Prop} {L : Addr} {m : Str → Option Value} {news : List (Addr × Obj)} {Q : Value → Shared → Prop} {st sc : Addr} {i x many : Int} {t1 t2 t3 : Tok} {n : Nat} {news' : Obj → List (Addr × Obj)}
    (F : Fr h₀ L s.heap m) (X : (hd.heap_39 w.params).In h₀) (T : Top hd.view_39 (looseW hd.view_39 []) mean mg mb h₀) (N : News h₀ L s.heap news)
    (U : ∀ o', Upd st (listOf #[.ref sc, .int i t1, .int x t2] n) o' news (news' o')) (hsc : Sc s.heap sc) (B : StF i x)
    (hm : 0 < many) (hm1 : many < 1000) (hdp : dp + 10 < recursionLimit) (hun : un + 200 < cLine)
    (h : ∀ r i' x' t t1' t2' n' h' tk', 0 ≤ r → r < many → StF i' x' → Fr h₀ L h' m → News h₀ L h' (news' (listOf #[.ref sc, .int i' t1', .int x' t2'] n')) → Q (.int r t) { s with heap := h', toks := tk' }) :
    wpAny (model prog w) (Ar dp un fr gd) (call (.ref 28) [.ref st, .int many t3]) Q E s := by
  refine wpAny_call ?_
  obtain ⟨vs, ns, hl, hi, hn⟩ := hsc
  obtain ⟨pre, post, e1, e2, a, b⟩ := (U (listOf #[.ref sc, .int i t1, .int x t2] n)).split
  have D := N (st, listOf #[.ref sc, .int i t1, .int x t2] n) (by rw [e1]; simp)
  refine next_code (h₀ := h₀) F.keep X T hdp hun D.1 D.2.2 hl ?_ hi hn B.a B.b B.c hm hm1 ?_
  · rintro rfl
    obtain ⟨o, ho, _, k, hd⟩ := hl
    rw [D.1] at ho
    cases ho
    simp only [Data.seq.injEq] at hd
    have := congrArg Array.toList hd.1
    simp only at this
    have h0 := hi
    rw [← this] at h0
    cases h0
  · intro r i' x' t t1' t2' n' h' tk' h1 h2 h3 h4 h5 hk hs
    obtain ⟨F', N'⟩ := upd_frame F N (U _) hk hs
    exact h r i' x' t t1' t2' n' h' tk' h1 h2 ⟨h3, h4, h5⟩ F' N'
end
end Mine

end
section
open PySem PySem.W PySem.Calls PyProof.Rows
set_option Elab.async false
set_option maxRecDepth 100000
namespace Mine

def ov (ps : List (Str × Value)) (u : Str → Option Value) : Str → Option Value := fun y => match ps.lookup y with | some v => some v | none => u y
theorem ov_of {ps : List (Str × Value)} {m : Str → Option Value} (h : ∀ p ∈ ps, m p.1 = some p.2) : m = ov ps m := by
  funext y
  unfold ov
  induction ps with
  | nil => rfl
  | cons p ps ih =>
    rw [List.lookup_cons]
    by_cases e : y = p.1
    · subst e
      simp [h p (.head _)]
    · have : (y == p.1) = false := by simpa using e
      simp only [this]
      exact ih fun q hq => h q (.tail _ hq)

section
variable {prog : Program} {w : World} {A : Around} {E : Value → Shared → Prop} {s : Shared} {env : Env} {h₀ : Heap} {x : Str} {body : List Stmt} {Q : Flow → Shared → Prop}

theorem rng_loop {r : Addr} {a₀ b₀ : Int} {t₀ u₀ v₀ : Tok} {n : Nat} {m₀ : Str → Option Value} {news : List (Addr × Obj)} (J : Nat → (Str → Option Value) → List (Addr × Obj) → Prop)
    (hh : A.handled = none) (hr : IsRange s.heap r a₀ b₀ 1 t₀ u₀ v₀) (hsmall : Builtin.Range.small a₀ b₀ 1 = true) (hn : Builtin.Range.rangeSize a₀ b₀ 1 = (n : Int)) (F : Fr h₀ env.locals s.heap m₀) (N : News h₀ env.locals s.heap news)
    (hj : J 0 m₀ news)
    (turn : ∀ I i t m₁ nx h tk, i < n → (∀ p ∈ nx, p.1 ≠ I) → J i m₁ nx → Fr h₀ env.locals h (fun y => if y = x then some (.int (a₀ + (i : Int)) t) else m₁ y) → News h₀ env.locals h ((I, itR (a₀ + ((i + 1 : Nat) : Int)) ((n : Int) - ((i + 1 : Nat) : Int))) :: nx) →
      wpAny (model prog w) A (execs body env) (UnrPost h₀ env.locals { s with heap := h, toks := tk } I (itR (a₀ + ((i + 1 : Nat) : Int)) ((n : Int) - ((i + 1 : Nat) : Int))) (J (i + 1)) Q) E { s with heap := h, toks := tk })
    (done : ∀ m₁ nx h tk, J n m₁ nx → Fr h₀ env.locals h m₁ → News h₀ env.locals h nx → Q .next { s with heap := h, toks := tk }) :
    wpAny (model prog w) A (pyIter (.ref r)) (fun it s₂ => LoopAtV prog w A h₀ env x body Q E it s₂) E s := by
  refine wpAny_pyIter_range hr hsmall ?_
  have W : Walks prog w A s.heap.objs.size [s.heap.objs.size] [s.heap.objs.size] n (fun i v => i < n ∧ ∃ t, v = .int (a₀ + i * 1) t)
      (fun i h => IsRangeIter h s.heap.objs.size (a₀ + (i : Nat) * 1) ((n : Int) - (i : Nat)) 1) := (Walks.range hh _ a₀ 1 n).bound
  have hnew := next_is_new F
  refine ⟨_, _, _, n, _, _, m₀, news, J, rfl, W, ?_, ?_, ?_, (by show IsRangeIter _ _ _ _ _; rw [hn]; simpa using Heap.get?_push_size _ rfl), F.push _, (fun p hp => ⟨Heap.get?_push_of_some _ (N p hp).1, (N p hp).2⟩), hj, ?_, ?_⟩
  · intro hm
    exact absurd F.ns.lt ((List.mem_singleton.mp hm) ▸ Nat.lt_irrefl _)
  · intro b hb
    rw [List.mem_singleton.mp hb]
    exact hnew
  · intro p hp hI
    exact absurd (Heap.lt_size (N p hp).1) ((List.mem_singleton.mp hI) ▸ Nat.lt_irrefl _)
  · rintro i v m₁ news₁ s₁ own ⟨hh', tk', rfl⟩ hin ⟨_, t, rfl⟩ hJ hoff hown hget hall hst F₁ N₁
    have hst' : hh'.get? s.heap.objs.size = some (itR (a₀ + ((i + 1 : Nat) : Int)) ((n : Int) - ((i + 1 : Nat) : Int))) := by
      have q : IsRangeIter hh' s.heap.objs.size (a₀ + ((i + 1 : Nat) : Int) * 1) ((n : Int) - ((i + 1 : Nat) : Int)) 1 := hst
      rw [Int.mul_one] at q
      exact q
    have hmem := hall s.heap.objs.size (List.mem_singleton.mpr rfl) hnew _ hst'
    have e1 : a₀ + (i : Int) * 1 = a₀ + (i : Int) := by rw [Int.mul_one]
    rw [e1] at F₁
    have N₂ : News h₀ env.locals hh' ((s.heap.objs.size, itR (a₀ + ((i + 1 : Nat) : Int)) ((n : Int) - ((i + 1 : Nat) : Int))) :: news₁) := fun p hp => by
      rcases List.mem_cons.mp hp with rfl | hp
      · exact N₁ _ (List.mem_append_left _ hmem)
      · exact N₁ _ (List.mem_append_right _ hp)
    refine wpAny_mono (turn _ i t m₁ news₁ hh' tk' hin (fun p hp e => hoff p hp (List.mem_singleton.mpr e)) hJ F₁ N₂) (fun f s₂ p => ?_) fun _ _ e => e
    have fin : UnrEnd h₀ env.locals { s with heap := hh', toks := tk' } s.heap.objs.size (itR (a₀ + ((i + 1 : Nat) : Int)) ((n : Int) - ((i + 1 : Nat) : Int))) (J (i + 1)) s₂ →
        LoopStepU h₀ env.locals [s.heap.objs.size] own (J (i + 1)) { s with heap := hh', toks := tk' } .next s₂ := by
      rintro ⟨h', tk, m', news', e, F', N', ho, r⟩
      refine ⟨rfl, h', tk, m', news', e, F', fun p hp => ?_, fun p hp hI => ho p hp (List.mem_singleton.mp hI), r⟩
      rcases List.mem_append.mp hp with hp | hp
      · have h1 : p.1 = s.heap.objs.size := List.mem_singleton.mp (hown p hp)
        have h2 : hh'.get? p.1 = some p.2 := hget p hp
        have h3 : p = (s.heap.objs.size, itR (a₀ + ((i + 1 : Nat) : Int)) ((n : Int) - ((i + 1 : Nat) : Int))) := by
          rw [h1, hst'] at h2
          exact Prod.ext h1 (Option.some.inj h2).symm
        rw [h3]; exact N' _ (List.mem_cons_self ..)
      · exact N' _ (List.mem_cons_of_mem _ hp)
    cases f with
    | ret v => exact .ret p
    | brk => exact .brk p
    | next => exact .next (fin p)
    | cont => exact .cont (fin p)
  · rintro h' tk m' news' F' N' _ hJ
    exact done m' news' h' tk hJ F' N'
end
end Mine

end
section
open PySem PySem.W PySem.Calls PyProof.Rows
set_option Elab.async false
set_option maxRecDepth 100000
namespace Mine

/-- the names that are told -/
def hardT : List Str := [Str.ofString "l", Str.ofString "O", Str.ofString "I"]
def starsT : List Str := [Str.ofString "", Str.ofString "", Str.ofString "", Str.ofString "*", Str.ofString "**"]
def nameT : List Str := [Str.ofString "l", Str.ofString "O", Str.ofString "I", Str.ofString "a", Str.ofString "b", Str.ofString "l", Str.ofString "ab"]
def typeT : List Str := [Str.ofString "", Str.ofString "", Str.ofString ": int", Str.ofString ": l", Str.ofString ": x[I]", Str.ofString ": y.O"]
def dfltT : List Str := [Str.ofString "", Str.ofString "", Str.ofString "=1", Str.ofString " = 2", Str.ofString "=x[1:5]", Str.ofString "=a.I", Str.ofString "=l", Str.ofString "=[l]", Str.ofString "=x[O]", Str.ofString "={1: l}"]

/-- a told place -/
def place (k : Int) (x : Str) : Dat := .tuple [.tuple [.int 1, .int k], .str x]
def e741 (x : Str) : Str := (Str.ofString "E741 ambiguous variable name '" ++ x) ++ Str.ofString "'"
def e743 (x : Str) : Str := (Str.ofString "E743 ambiguous function definition '" ++ x) ++ Str.ofString "'"
def dueN (k : Int) (x : Str) : List Dat := if x ∈ hardT then [place k (e741 x)] else []

def sep (i : Nat) (t : Str) : Str := if i = 0 then t else t ++ Str.ofString ", "

/-- what _law_params may build -/
inductive PRun (b1 b2 : Bool) (t0 : Str) : Nat → Str → List Dat → Prop
  | nil : PRun b1 b2 t0 0 t0 []
  | star {i t ds} : PRun b1 b2 t0 i t ds → i ≠ 0 → PRun b1 b2 t0 (i + 1) (sep i t ++ Str.ofString "*") ds
  | slash {i t ds} : PRun b1 b2 t0 i t ds → i ≠ 0 → PRun b1 b2 t0 (i + 1) (sep i t ++ Str.ofString "/") ds
  | par {i t ds} {a b c d : Str} : PRun b1 b2 t0 i t ds → a ∈ starsT → b ∈ nameT → (c ∈ typeT ∧ (b1 = false → c = Str.ofString "")) →
      (d ∈ dfltT ∧ (¬ (a = Str.ofString "" ∧ ¬ (b2 = true ∧ b ∈ hardT)) → d = Str.ofString "")) →
      PRun b1 b2 t0 (i + 1) ((((sep i t ++ a) ++ b) ++ c) ++ d) (ds ++ dueN (sep i t ++ a).length b)
end Mine

end
section
open PySem PySem.W PySem.Calls PyProof.Rows
set_option Elab.async false
set_option maxRecDepth 100000
namespace Mine
theorem fill3 : (PySem.Challenge.rw_et5026_01 = PySem.Challenge.rw_et5026_01) ∧ (∀ P, hd.heap_39 P = hd.heap_39 P) := by
  k_fill
  exact ⟨rfl, fun _ => rfl⟩

local macro_rules | `(tactic| walk_at "call ref") => `(tactic| (k_here; (with_reducible show wpAny _ _ (call (Value.ref 28) _) _ _ _); k_dflt (refine' next_K ?F ?X ?T ?N ?U ?sc ?B ?m0 ?m1 ?dp ?un ?_; (case F => k_asm); (case X => k_asm); (case T => k_asm); (case N => k_asm); (case U => intro o'; k_upd); (case sc => first | assumption | exact Sc.keeps (Fr.keep (by k_asm)) (by assumption)); (case B => assumption); (case m0 => decide); (case m1 => decide); (case dp => (try dsimp only [Around.deeper, Ar]); omega); (case un => (try dsimp only [Around.deeper, Ar]); omega)); intro r' i' x' t' t1' t2' n' h' tk' h0' h1' B' F' N'; (try k_sweep)))
local macro_rules | `(tactic| walk_at "call type:range") => `(tactic| (k_here; (rename Fr _ _ _ _ => F'); (rename News _ _ _ _ => N'); (with_unfolding_all refine range1_rows F' N' ?_; intro _ _ _ _ _ _ _ _ _)))
local macro_rules | `(tactic| tb_start) => `(tactic| repeat' ((fail_if_success (with_reducible show wpAny _ _ (pyIter _) _ _ _)); (first | (k_unfold; (try dsimp only)) | (k_end; wrow_close) | walk1 | (dsimp only; walk1) | (leave1; walk_say "STEP leave1"; try dsimp only) | fail "no step")))


theorem menu_item {prog : Program} {w : World} {A : Around} {E : Value → Shared → Prop} {s : Shared} {value slice : PySem.Expr} {h₀ : Heap} {L l : Addr} {news : List (Addr × Obj)} {vs : List Value} {ws : List Str} {i : Int} {u : Tok} {Q : Value → Shared → Prop}
    (N : News h₀ L s.heap ((l, listOf vs.toArray 0) :: news)) (hw : StrsAre vs ws) (h0 : 0 ≤ i) (h1 : i < (ws.length : Int)) (hfit : i < 2 ^ 63) (hmax : ∀ x ∈ ws, x.length ≤ 16) (h : ∀ x t', News h₀ L s.heap news → x ∈ ws → x.length ≤ 16 → Q (.str x t') s)
    (hs : subscripted slice false (.ref l) (.int i u) = operate [.ref l, .int i u] (getItem (.ref l) (.int i u)) := by with_unfolding_all rfl) :
    wpAny (model prog w) A (subscriptTail value slice (.ref l) (.int i u)) Q E s :=
  KTb.item_list (vs := vs) ⟨_, (N _ (.head _)).1, rfl, 0, rfl⟩ hw h0 h1 hfit (fun t' hlt => by
    have hm : ws.getD i.toNat Str.empty ∈ ws := by
      rw [List.getD_eq_getElem?_getD, List.getElem?_eq_getElem hlt]
      exact List.getElem_mem hlt
    exact h _ t' (fun p hp => N p (.tail _ hp)) hm (hmax _ hm)) hs
local macro_rules | `(tactic| walk_at "subscriptTail") => `(tactic| (k_here; (with_reducible show wpAny _ _ (subscriptTail _ _ (Value.ref _) (Value.int _ _)) _ _ _); ktb_letter; (rename News _ _ _ _ => kOld); k_dflt (refine' menu_item kOld ?ktbw ?ktb0 ?ktb1 ?ktbf ?ktbm ?_; (case ktbw => repeat constructor); (case ktb0 => ktb_idx); (case ktb1 => ktb_idx); (case ktbf => ktb_idx); (case ktbm => decide +kernel)); (clear kOld); intro mX' mT' mN' mH' mL'))
local macro_rules | `(tactic| size_fits) => `(tactic| ((simp only [Str.length_append, PySem.sizeLine_eq]); omega))
local macro_rules | `(tactic| size_fits) => `(tactic| ((simp only [Str.length_append, List.size_toArray, PySem.sizeLine_eq]); omega))

local macro_rules | `(tactic| walk_at "call builtin:list.append") => `(tactic| (k_here; k_dflt (refine' append_K ?k1 ?k2 ?k3 ?_ ?z; (case k1 => k_asm); (case k2 => k_asm); (case k3 => k_upd); (case z => size_fits); k_whole); intro h' F' N'; (try k_sweep)))

def fnBody : Stmt → List Stmt | .FunctionDef _ _ b _ _ _ _ _ _ _ => b | _ => []
def fnScope : Stmt → Scope | .FunctionDef _ _ _ _ _ _ s _ _ _ => s | _ => default
def forBody : Stmt → List Stmt | .For _ _ b _ _ => b | .While _ b _ _ => b | _ => []
def ifElse : Stmt → List Stmt | .If _ _ e _ => e | _ => []
def ifThen : Stmt → List Stmt | .If _ b _ _ => b | _ => []
def nth : List Stmt → Nat → Stmt | [], _ => .Pass default | s :: _, 0 => s | _ :: r, n + 1 => nth r n
def defAt (k : Nat) : Stmt := nth (PySem.Challenge.pw_et5026_01.main.body) k
def parStmts : List Stmt := ifElse (nth (ifElse (nth (forBody (nth (fnBody (defAt 5)) 1)) 2)) 0)

theorem any_hard {x : Str} : ([Str.ofString "l", Str.ofString "O", Str.ofString "I"].any fun y => y == x) = true ↔ x ∈ hardT := by
  unfold hardT
  simp only [List.any_cons, List.any_nil, Bool.or_false, Bool.or_eq_true, beq_iff_eq, List.mem_cons, List.not_mem_nil, or_false]
  constructor <;> (rintro (h | h | h) <;> simp [h])
theorem any_soft {x : Str} (h : ([Str.ofString "l", Str.ofString "O", Str.ofString "I"].any fun y => y == x) = false) : x ∉ hardT := fun hm => by
  rw [any_hard.mpr hm] at h; cases h
theorem dueN_hard {k : Int} {x : Str} (h : x ∈ hardT) : dueN k x = [place k (e741 x)] := if_pos h
theorem dueN_soft {k : Int} {x : Str} (h : x ∉ hardT) : dueN k x = [] := if_neg h
theorem d_ok {a b d : Str} {b2 : Bool} (hd : d ∈ dfltT) (ha : (a == Str.ofString "") = true) (hb : ¬ (b2 = true ∧ b ∈ hardT)) : d ∈ dfltT ∧ (¬ (a = Str.ofString "" ∧ ¬ (b2 = true ∧ b ∈ hardT)) → d = Str.ofString "") :=
  ⟨hd, fun h => absurd ⟨beq_iff_eq.mp ha, hb⟩ h⟩
theorem d_no {a b : Str} {b2 : Bool} : Str.ofString "" ∈ dfltT ∧ (¬ (a = Str.ofString "" ∧ ¬ (b2 = true ∧ b ∈ hardT)) → Str.ofString "" = Str.ofString "") := ⟨.head _, fun _ => rfl⟩
theorem c_ok {c : Str} {b1 : Bool} (hc : c ∈ typeT) (h : b1 = true) : c ∈ typeT ∧ (b1 = false → c = Str.ofString "") := ⟨hc, fun e => by rw [h] at e; cases e⟩
theorem c_no {b1 : Bool} : Str.ofString "" ∈ typeT ∧ (b1 = false → Str.ofString "" = Str.ofString "") := ⟨.head _, fun _ => rfl⟩
theorem dat_place {L : List (Addr × Obj)} {a b : Addr} {k : Int} {x : Str} {t1 t2 t3 : Tok} {n m : Nat} (h1 : (a, ({ cls := .type "tuple", data := .seq #[.ref b, .str x t1] n } : Obj)) ∈ L) (h2 : (b, ({ cls := .type "tuple", data := .seq #[.int 1 t2, .int k t3] m } : Obj)) ∈ L) :
    DatIn L (.ref a) (place k x) := DatIn.tuple (vs := [.ref b, .str x t1]) h1 (.cons (DatIn.tuple (vs := [.int 1 t2, .int k t3]) h2 (.cons (.int _ _) (.cons (.int _ _) .nil))) (.cons (.str _ _) .nil))
theorem news_re2 {g h : Heap} {L : Addr} {p1 p2 q1 q2 q3 q4 : Addr × Obj} {tl : List (Addr × Obj)} (N : News g L h (p1 :: p2 :: q1 :: q2 :: q3 :: q4 :: tl)) : News g L h (q1 :: q2 :: q3 :: q4 :: ([p1, p2] ++ tl)) := fun p hp => N p (by
  simp only [List.mem_cons, List.mem_append, List.not_mem_nil, or_false] at hp ⊢
  rcases hp with h | h | h | h | (h | h) | h <;> simp [h])
theorem s_nil : Str.ofString "" = Str.empty := by decide +kernel
theorem app_nil (x : Str) : x ++ Str.ofString "" = x := by rw [s_nil]; exact Str.append_empty x

section
variable {prog : Program} {w : World} {dp un : Nat} {fr : Option (List Env)} {gd : Option (List Code)} {s : Shared} {g : Heap} {mean : ExcName → Option Value} {mg mb : Str → Option Value}
set_option maxHeartbeats 8000000 in
theorem par_turn {Q : Flow → Shared → Prop} {E : Value → Shared → Prop} {L st sc due hard I : Addr} {i x : Int} {t1 t2 tt k1 k2 k3 : Tok} {n nd tk : Nat} {t0 : Str} {b1 b2 : Bool} {us : List Value} {itO : Obj} {tl : List (Addr × Obj)} {m : Str → Option Value} {h : Heap}
    (X : (hd.heap_39 w.params).In g) (T : Top hd.view_39 (looseW hd.view_39 []) mean mg mb g) (hdp : dp + 20 < recursionLimit) (hun : un + 250 < cLine) (hsc : Sc g sc) (B : StF i x) (hlen : t0.length ≤ 500) (hus : us.length ≤ 20)
    (hne : @Ne Nat due st) (ha1 : @Ne Nat hard st) (ha2 : @Ne Nat hard due) (ho : OwnOff tl [st, due]) (hI1 : @Ne Nat hard I) (hI2 : @Ne Nat st I) (hI3 : @Ne Nat due I)
    (F : Fr g L h m) (hm : ∀ p ∈ ([(Str.ofString "text", .str t0 tt), (Str.ofString "state", .ref st), (Str.ofString "due", .ref due), (Str.ofString "hard", .ref hard), (Str.ofString "in_def", .bool b1), (Str.ofString "shallow", .bool b2)] : List (Str × Value)), m p.1 = some p.2)
    (N : News g L h ((I, itO) :: (hard, listOf #[.str (Str.ofString "l") k1, .str (Str.ofString "O") k2, .str (Str.ofString "I") k3] 0) :: (st, listOf #[.ref sc, .int i t1, .int x t2] n) :: (due, listOf us.toArray nd) :: tl))
    (ret : ∀ (a b c d tf : Str) (i' x' : Int) (t1' t2' tt' : Tok) (n' nd' tk' : Nat) (ws : List Value) (add : List (Addr × Obj)) (m' : Str → Option Value) (h' : Heap),
      a ∈ starsT → b ∈ nameT →
      StF i' x' → Fr g L h' m' → (∀ p ∈ ([(Str.ofString "text", .str tf tt'), (Str.ofString "state", .ref st), (Str.ofString "due", .ref due), (Str.ofString "hard", .ref hard), (Str.ofString "in_def", .bool b1), (Str.ofString "shallow", .bool b2)] : List (Str × Value)), m' p.1 = some p.2) →
      News g L h' ((I, itO) :: (hard, listOf #[.str (Str.ofString "l") k1, .str (Str.ofString "O") k2, .str (Str.ofString "I") k3] 0) :: (st, listOf #[.ref sc, .int i' t1', .int x' t2'] n') :: (due, listOf (us ++ ws).toArray nd') :: (add ++ tl)) →
      (∀ p ∈ add, @Ne Nat p.1 st ∧ @Ne Nat p.1 due ∧ @Ne Nat p.1 I) → DatAll add ws (dueN (t0 ++ a).length b) →
      (c ∈ typeT ∧ (b1 = false → c = Str.ofString "")) → (d ∈ dfltT ∧ (¬ (a = Str.ofString "" ∧ ¬ (b2 = true ∧ b ∈ hardT)) → d = Str.ofString "")) → tf = (((t0 ++ a) ++ b) ++ c) ++ d → Q .next { s with heap := h', toks := tk' }) :
    wpAny (model prog w) ((Ar dp un fr gd).deeper (envOf (Str.ofString "_law_params") (fnScope (defAt 5)) L 42 (.ref 41))) (execs parStmts (envOf (Str.ofString "_law_params") (fnScope (defAt 5)) L 42 (.ref 41))) Q E { s with heap := h, toks := tk } := by
  have ret0 : ∀ (a b c d tf : Str) (i' x' : Int) (t1' t2' tt' : Tok) (n' nd' tk' : Nat) (m' : Str → Option Value) (h' : Heap),
      a ∈ starsT → b ∈ nameT →
      StF i' x' → Fr g L h' m' → (∀ p ∈ ([(Str.ofString "text", .str tf tt'), (Str.ofString "state", .ref st), (Str.ofString "due", .ref due), (Str.ofString "hard", .ref hard), (Str.ofString "in_def", .bool b1), (Str.ofString "shallow", .bool b2)] : List (Str × Value)), m' p.1 = some p.2) →
      News g L h' ((I, itO) :: (hard, listOf #[.str (Str.ofString "l") k1, .str (Str.ofString "O") k2, .str (Str.ofString "I") k3] 0) :: (st, listOf #[.ref sc, .int i' t1', .int x' t2'] n') :: (due, listOf us.toArray nd') :: tl) →
      b ∉ hardT → (c ∈ typeT ∧ (b1 = false → c = Str.ofString "")) → (d ∈ dfltT ∧ (¬ (a = Str.ofString "" ∧ ¬ (b2 = true ∧ b ∈ hardT)) → d = Str.ofString "")) → tf = (((t0 ++ a) ++ b) ++ c) ++ d → Q .next { s with heap := h', toks := tk' } := by
    intro a b c d tf i' x' t1' t2' tt' n' nd' tk' m' h' hA hB hS hF hM hN hb hC hD ht
    exact ret a b c d tf i' x' t1' t2' tt' n' nd' tk' [] [] m' h' hA hB hS hF hM (by rw [List.append_nil]; exact hN) (fun _ hp => nomatch hp) (by rw [dueN_soft hb]; exact .nil) hC hD ht
  rw [ov_of hm] at F
  clear hm
  dsimp only [parStmts, defAt, PySem.Challenge.pw_et5026_01, nth, fnBody, forBody, ifElse, fnScope]
  have kMark := kdMark
  w_on
  w_strict k_steps
  all_goals (try dsimp only)
  all_goals (rename Fr _ _ _ _ => F'; rename News _ _ _ _ => N'; rename StF _ _ => B')
  all_goals (rename _ ∈ [Str.ofString "", Str.ofString "", Str.ofString "", Str.ofString "*", Str.ofString "**"] => hA)
  all_goals (rename _ ∈ [Str.ofString "l", Str.ofString "O", Str.ofString "I", Str.ofString "a", Str.ofString "b", Str.ofString "l", Str.ofString "ab"] => hB)
  all_goals (rename List.any _ _ = _ => hH)
  all_goals clear X T hdp hun
  all_goals first
    | (have hh := any_soft hH; exact ret0 _ _ _ _ _ _ _ _ _ _ _ _ _ _ _ hA hB B' F' (by intro p hp; simp only [List.mem_cons, List.not_mem_nil, or_false] at hp; rcases hp with rfl | rfl | rfl | rfl | rfl | rfl <;> rfl) N' hh (by first | exact c_ok (by assumption) (by assumption) | exact c_no) (by first | exact d_ok (by assumption) (by assumption) (fun z => hh z.2) | exact d_no) (by first | rfl | (simp only [app_nil]; done)))
    | (have hh := any_hard.mp hH; simp only [List.push_toArray] at N'; exact ret _ _ _ _ _ _ _ _ _ _ _ _ _ _ _ _ _ hA hB B' F' (by intro p hp; simp only [List.mem_cons, List.not_mem_nil, or_false] at hp; rcases hp with rfl | rfl | rfl | rfl | rfl | rfl <;> rfl) (news_re2 N') (by intro p hp; simp only [List.mem_cons, List.not_mem_nil, or_false] at hp; rcases hp with rfl | rfl <;> (dsimp only; omega)) (by rw [dueN_hard hh]; exact DatAll.one (dat_place (.head _) (.tail _ (.head _)))) (by first | exact c_ok (by assumption) (by assumption) | exact c_no) (by first | exact d_ok (by assumption) (by assumption) (fun z => by simp_all) | exact d_no) (by first | rfl | (simp only [app_nil]; done)))
end
end Mine

end
section
open PySem PySem.W PySem.Calls PyProof.Rows
set_option Elab.async false
set_option maxRecDepth 100000
namespace Mine
theorem fill4 : (PySem.Challenge.rw_et5026_01 = PySem.Challenge.rw_et5026_01) ∧ (∀ P, hd.heap_39 P = hd.heap_39 P) := by
  k_fill
  exact ⟨rfl, fun _ => rfl⟩

local macro_rules | `(tactic| walk_at "call ref") => `(tactic| (k_here; (with_reducible show wpAny _ _ (call (Value.ref 28) _) _ _ _); k_dflt (refine' next_K ?F ?X ?T ?N ?U ?sc ?B ?m0 ?m1 ?dp ?un ?_; (case F => k_asm); (case X => k_asm); (case T => k_asm); (case N => k_asm); (case U => intro o'; k_upd); (case sc => first | assumption | exact Sc.keeps (Fr.keep (by k_asm)) (by assumption)); (case B => assumption); (case m0 => decide); (case m1 => decide); (case dp => (try dsimp only [Around.deeper, Ar]); omega); (case un => (try dsimp only [Around.deeper, Ar]); omega)); intro r' i' x' t' t1' t2' n' h' tk' h0' h1' B' F' N'; (try k_sweep)))
local macro_rules | `(tactic| walk_at "call type:range") => `(tactic| (k_here; (rename Fr _ _ _ _ => F'); (rename News _ _ _ _ => N'); (with_unfolding_all refine range1_rows F' N' ?_; intro _ _ _ _ _ _ _ _ _)))
local macro_rules | `(tactic| size_fits) => `(tactic| ((simp only [Str.length_append, List.size_toArray, PySem.sizeLine_eq]); omega))
local macro_rules | `(tactic| tb_start) => `(tactic| repeat' ((fail_if_success (with_reducible show wpAny _ _ (pyIter _) _ _ _)); (first | (k_unfold; (try dsimp only)) | (k_end; wrow_close) | walk1 | (dsimp only; walk1) | (leave1; walk_say "STEP leave1"; try dsimp only) | fail "no step")))
local macro_rules | `(tactic| tb_rel) => `(tactic| repeat' ((fail_if_success (with_reducible show UnrEnd _ _ _ _ _ _ _)); (fail_if_success (with_reducible show wpAny _ _ (execs (Stmt.Assign [Expr.Name (Str.ofString "stars") _] _ _ :: _) _) _ _ _)); (first | (k_unfold; (try dsimp only)) | (k_end; wrow_close) | walk1 | (dsimp only; walk1) | (leave1; walk_say "STEP leave1"; try dsimp only) | fail "no step")))

theorem tab_len : (∀ x ∈ starsT, x.length ≤ 16) ∧ (∀ x ∈ nameT, x.length ≤ 16) ∧ (∀ x ∈ typeT, x.length ≤ 16) ∧ (∀ x ∈ dfltT, x.length ≤ 16) := by decide +kernel
theorem len_sep : (Str.ofString ", ").length = 2 ∧ (Str.ofString "*").length = 1 ∧ (Str.ofString "/").length = 1 := by decide +kernel
theorem sep_len (i : Nat) (t : Str) : (sep i t).length ≤ t.length + 2 := by
  unfold sep
  split
  · omega
  · rw [Str.length_append, len_sep.1]; exact Nat.le_refl _
theorem PRun.len {b1 b2 : Bool} {t0 : Str} {i : Nat} {t : Str} {ds : List Dat} (h : PRun b1 b2 t0 i t ds) : t.length ≤ t0.length + 70 * i ∧ ds.length ≤ i := by
  induction h with
  | nil => exact ⟨by omega, Nat.le_refl _⟩
  | star _ _ ih =>
    rw [Str.length_append, len_sep.2.1]
    rename_i i t ds _ _
    have := sep_len i t
    omega
  | slash _ _ ih =>
    rw [Str.length_append, len_sep.2.2]
    rename_i i t ds _ _
    have := sep_len i t
    omega
  | par _ ha hb hc hd ih =>
    rename_i i t ds a b c d _
    have := sep_len i t
    have h1 := tab_len.1 _ ha
    have h2 := tab_len.2.1 _ hb
    have h3 := tab_len.2.2.1 _ hc.1
    have h4 := tab_len.2.2.2 _ hd.1
    have hq : ∀ k x, (dueN k x).length ≤ 1 := fun k x => by unfold dueN; split <;> simp
    refine ⟨?_, ?_⟩
    · simp only [Str.length_append]
      omega
    · rw [List.length_append]
      exact Nat.add_le_add ih.2 (hq _ _)
theorem sep_pos {i : Nat} (h : i ≠ 0) (t : Str) : sep i t = t ++ Str.ofString ", " := if_neg h
theorem sep_zero (t : Str) : sep 0 t = t := if_pos rfl

def JP (st sc due : Addr) (text0 : Str) (us : List Value) (b1 b2 : Bool) (i : Nat) (m : Str → Option Value) (nx : List (Addr × Obj)) : Prop :=
  ∃ (i' x' : Int) (t1 t2 tt k1 k2 k3 : Tok) (hard : Addr) (n nd : Nat) (us' ws : List Value) (tl : List (Addr × Obj)) (t : Str) (ds : List Dat),
    nx = (hard, listOf #[.str (Str.ofString "l") k1, .str (Str.ofString "O") k2, .str (Str.ofString "I") k3] 0) :: (st, listOf #[.ref sc, .int i' t1, .int x' t2] n) :: (due, listOf us'.toArray nd) :: tl ∧ us' = us ++ ws ∧
    @Ne Nat hard st ∧ @Ne Nat hard due ∧ OwnOff tl [st, due] ∧ StF i' x' ∧ PRun b1 b2 text0 i t ds ∧ DatAll tl ws ds ∧
    (∀ p ∈ ([(Str.ofString "text", .str t tt), (Str.ofString "state", .ref st), (Str.ofString "due", .ref due), (Str.ofString "hard", .ref hard), (Str.ofString "in_def", .bool b1), (Str.ofString "shallow", .bool b2)] : List (Str × Value)), m p.1 = some p.2)

theorem ownOff_add {add tl : List (Addr × Obj)} {st due I : Addr} (h : ∀ p ∈ add, @Ne Nat p.1 st ∧ @Ne Nat p.1 due ∧ @Ne Nat p.1 I) (ho : OwnOff tl [st, due]) : OwnOff (add ++ tl) [st, due] := by
  intro p hp b hb
  rcases List.mem_append.mp hp with hp | hp
  · simp only [List.mem_cons, List.not_mem_nil, or_false] at hb
    rcases hb with rfl | rfl
    · exact (h p hp).1
    · exact (h p hp).2.1
  · exact ho p hp b hb

section
variable {prog : Program} {w : World} {dp un : Nat} {fr : Option (List Env)} {gd : Option (List Code)} {s : Shared} {h₀ : Heap} {mean : ExcName → Option Value} {mg mb : Str → Option Value} {R : Result → Shared → Prop}

set_option maxHeartbeats 8000000 in
theorem params_code {st sc due : Addr} {i x : Int} {t1 t2 tt : Tok} {n nd : Nat} {text : Str} {b1 b2 : Bool} {us : List Value}
    (hk : h₀.StaysIn s.heap) (X : (hd.heap_39 w.params).In h₀) (T : Top hd.view_39 (looseW hd.view_39 []) mean mg mb h₀) (hdp : dp + 30 < recursionLimit) (hun : un + 280 < cLine)
    (hst : s.heap.get? st = some (listOf #[.ref sc, .int i t1, .int x t2] n)) (hst0 : h₀.get? st = none)
    (hdue : s.heap.get? due = some (listOf us.toArray nd)) (hdue0 : h₀.get? due = none) (hne : @Ne Nat due st)
    (hsc : Sc h₀ sc) (B : StF i x)
    (hlen : text.length ≤ 40) (hus : us.length ≤ 8)
    (hret : ∀ (k : Nat) (t : Str) (ds : List Dat) (t' : Tok) (i' x' : Int) (t1' t2' : Tok) (n' nd' : Nat) (ws : List Value) (own : List (Addr × Obj)) (h' : Heap) (tk' : Nat), 1 ≤ k → k ≤ 5 → PRun b1 b2 text k t ds → DatAll own ws ds → StF i' x' →
      (∀ b o, b ≠ st → b ≠ due → s.heap.get? b = some o → h'.get? b = some o) → h'.get? st = some (listOf #[.ref sc, .int i' t1', .int x' t2'] n') → h'.get? due = some (listOf (us ++ ws).toArray nd') →
      (∀ p ∈ own, h'.get? p.1 = some p.2 ∧ s.heap.get? p.1 = none) → R (.ok (.ret (.str t t'))) { s with heap := h', toks := tk' }) :
    codeAny (model prog w) (Ar dp un fr gd) (.call (.ref 42) ⟨[.ref st, .str text tt, .ref due, .bool b1, .bool b2], []⟩) R s := by
  refine enterN (K := hd.heap_39 w.params) (binds := [(Str.ofString "state", .ref st), (Str.ofString "text", .str text tt), (Str.ofString "due", .ref due), (Str.ofString "in_def", .bool b1), (Str.ofString "shallow", .bool b2)]) (news := [(st, listOf #[.ref sc, .int i t1, .int x t2] n), (due, listOf us.toArray nd)]) hk X T (by intro q hq; simp only [List.mem_cons, List.not_mem_nil, or_false] at hq; rcases hq with rfl | rfl; exact ⟨hst, hst0⟩; exact ⟨hdue, hdue0⟩) (by k_is) (by k_is) (by show dp < recursionLimit; omega) (BindsTo.of_eq rfl) (locs rfl) ?_ rfl rfl rfl (by decide)
  intro g L' h₁ hg hL F N X' T'
  have hget : ∀ b o, b ≠ st → b ≠ due → s.heap.get? b = some o → g.get? b = some o := fun b o h1 h2 e => by
    rw [hg]
    refine hideAll_get _ e ?_
    intro hm
    simp only [List.map_cons, List.map_nil, List.mem_cons, List.not_mem_nil, or_false] at hm
    rcases hm with h | h
    · exact h1 h
    · exact h2 h
  have hscg : Sc g sc := by
    refine Sc.keeps (fun b o e => ?_) hsc
    refine hget b o ?_ ?_ (hk b o e)
    · rintro rfl; rw [hst0] at e; cases e
    · rintro rfl; rw [hdue0] at e; cases e
  clear hsc hk X T hst hst0 hdue hdue0 hg
  w_on
  generalize s.toks + _ = tk0
  try k_fold
  w_strict tb_start
  have kMark := kdMark
  (rename Fr _ _ _ _ => F'); (rename News _ _ _ _ => N'); (rename IsRange _ _ _ _ _ _ _ _ => R'); (rename 0 ≤ _ => r0); (rename _ < (5 : Int) => r1); (rename _ ∧ _ => l1); (rename StF _ _ => B9)
  dsimp only at R' N' F' ⊢
  refine' rng_loop (JP st sc due text us b1 b2) ?hh ?hr ?hs ?hn ?F ?N ?hj ?turn ?done
  case hh => exact rfl
  case hr => exact R'
  case hs => exact small_one (by omega) (by omega) (by omega) (by omega)
  case hn => exact rangeSize_nat _ _
  case F => exact F'
  case N => exact N'
  case hj => exact ⟨_, _, _, _, tt, _, _, _, _, _, nd, us, [], [], text, [], rfl, (List.append_nil us).symm, by omega, by omega, fun _ hp => (nomatch hp), B9, .nil, .nil, by intro p hp; simp only [List.mem_cons, List.not_mem_nil, or_false] at hp; rcases hp with rfl | rfl | rfl | rfl | rfl | rfl <;> rfl⟩
  case done =>
    rintro m₁ nx h tk ⟨i', x', t1', t2', tt', k1, k2, k3, hard, n', nd', us', ws, tl, txt, ds, rfl, hus', ha1, ha2, ho, hB, hP, hD, hm⟩ F1 N1
    rw [ov_of hm] at F1
    clear N' F' R' l1 B9 hm
    w_strict k_steps
    dsimp only
    subst hus'
    refine hret _ txt ds tt' i' x' t1' t2' n' nd' ws tl _ _ ?_ ?_ hP hD hB (fun b o h1 h2 e => F1.keep b o (hget b o h1 h2 e)) (N1 _ (.tail _ (.head _))).1 (N1 _ (.tail _ (.tail _ (.head _)))).1 ?_
    · omega
    · omega
    · intro p hp
      have z := N1 p (.tail _ (.tail _ (.tail _ hp)))
      refine ⟨z.1, ?_⟩
      cases e : s.heap.get? p.1 with
      | none => rfl
      | some o =>
        have := hget p.1 o (ho p hp _ (.head _)) (ho p hp _ (.tail _ (.head _))) e
        rw [z.2.2] at this; cases this
  case turn =>
    rintro I i t m₁ nx h tk hi hoff ⟨i', x', t1', t2', tt', k1, k2, k3, hard, n', nd', us', ws, tl, txt, ds, rfl, hus', ha1, ha2, ho, hB, hP, hD, hm⟩ F1 N1
    rw [ov_of hm] at F1
    have hi' : i < 5 := by omega
    have hl := hP.len
    have hw := hD.length
    have hul : us'.length ≤ 8 + 5 := by rw [hus', List.length_append]; omega
    have hl2 := len_sep.1
    have hI1 : @Ne Nat hard I := hoff _ (.head _)
    have hI2 : @Ne Nat st I := hoff _ (.tail _ (.head _))
    have hI3 : @Ne Nat due I := hoff _ (.tail _ (.tail _ (.head _)))
    have hI4 : ∀ p ∈ tl, p.1 ≠ I := fun p hp => hoff p (.tail _ (.tail _ (.tail _ hp)))
    clear N' F' R' l1 B9 hm hi r0 r1 hret hget
    w_strict tb_rel
    all_goals (rename Fr _ _ _ _ => F'; rename News _ _ _ _ => N'; rename StF _ _ => B')
    · have hi0 : i ≠ 0 := by omega
      have q := PRun.star hP hi0
      rw [sep_pos hi0] at q
      refine UnrEnd.intro F' N' (_ :: _ :: _ :: tl) (fun p hp => hp) ?_ ⟨_, _, _, _, _, k1, k2, k3, hard, _, nd', us', ws, tl, _, ds, rfl, hus', ha1, ha2, ho, B', q, hD, by intro p hp; simp only [List.mem_cons, List.not_mem_nil, or_false] at hp; rcases hp with rfl | rfl | rfl | rfl | rfl | rfl <;> rfl⟩
      intro p hp
      rcases List.mem_cons.mp hp with rfl | hp
      · exact hI1
      rcases List.mem_cons.mp hp with rfl | hp
      · exact hI2
      rcases List.mem_cons.mp hp with rfl | hp
      · exact hI3
      exact hI4 p hp
    · have hi0 : i ≠ 0 := by omega
      have q := PRun.slash hP hi0
      rw [sep_pos hi0] at q
      refine UnrEnd.intro F' N' (_ :: _ :: _ :: tl) (fun p hp => hp) ?_ ⟨_, _, _, _, _, k1, k2, k3, hard, _, nd', us', ws, tl, _, ds, rfl, hus', ha1, ha2, ho, B', q, hD, by intro p hp; simp only [List.mem_cons, List.not_mem_nil, or_false] at hp; rcases hp with rfl | rfl | rfl | rfl | rfl | rfl <;> rfl⟩
      intro p hp
      rcases List.mem_cons.mp hp with rfl | hp
      · exact hI1
      rcases List.mem_cons.mp hp with rfl | hp
      · exact hI2
      rcases List.mem_cons.mp hp with rfl | hp
      · exact hI3
      exact hI4 p hp
    · have hi0 : i ≠ 0 := by omega
      refine' par_turn (t0 := txt ++ Str.ofString ", ") (b1 := b1) (b2 := b2) X' T' (by omega) (by omega) hscg B' (by first | (rw [Str.length_append]; omega) | omega) (by omega) hne ha1 ha2 ho hI1 hI2 hI3 F' (by intro p hp; simp only [List.mem_cons, List.not_mem_nil, or_false] at hp; rcases hp with rfl | rfl | rfl | rfl | rfl | rfl <;> rfl) N' _
      intro a b c d tf i2 x2 t12 t22 tt2 n2 nd2 tk2 ws2 add m2 h2 hA hB hS hF hM hN hadd hDat hC hD2 htf
      have q := PRun.par hP hA hB hC hD2
      rw [sep_pos hi0] at q
      rw [← htf] at q
      dsimp only
      w_strict tb_rel
      refine UnrEnd.intro hF hN (_ :: _ :: _ :: (add ++ tl)) (fun p hp => hp) ?_ ⟨i2, x2, t12, t22, tt2, k1, k2, k3, hard, n2, nd2, us' ++ ws2, ws ++ ws2, add ++ tl, tf, _, rfl, by rw [hus', List.append_assoc], ha1, ha2, ownOff_add hadd ho, hS, q, DatAll.append (DatAll.mono (fun p hp => List.mem_append_right _ hp) hD) (DatAll.mono (fun p hp => List.mem_append_left _ hp) hDat), hM⟩
      intro p hp
      rcases List.mem_cons.mp hp with rfl | hp
      · exact hI1
      rcases List.mem_cons.mp hp with rfl | hp
      · exact hI2
      rcases List.mem_cons.mp hp with rfl | hp
      · exact hI3
      rcases List.mem_append.mp hp with hp | hp
      · exact (hadd p hp).2.2
      · exact hI4 p hp
    · have hi0 : i = 0 := by omega
      subst hi0
      refine' par_turn (t0 := txt) (b1 := b1) (b2 := b2) X' T' (by omega) (by omega) hscg B' (by first | (rw [Str.length_append]; omega) | omega) (by omega) hne ha1 ha2 ho hI1 hI2 hI3 F' (by intro p hp; simp only [List.mem_cons, List.not_mem_nil, or_false] at hp; rcases hp with rfl | rfl | rfl | rfl | rfl | rfl <;> rfl) N' _
      intro a b c d tf i2 x2 t12 t22 tt2 n2 nd2 tk2 ws2 add m2 h2 hA hB hS hF hM hN hadd hDat hC hD2 htf
      have q := PRun.par hP hA hB hC hD2
      rw [sep_zero] at q
      rw [← htf] at q
      dsimp only
      w_strict tb_rel
      refine UnrEnd.intro hF hN (_ :: _ :: _ :: (add ++ tl)) (fun p hp => hp) ?_ ⟨i2, x2, t12, t22, tt2, k1, k2, k3, hard, n2, nd2, us' ++ ws2, ws ++ ws2, add ++ tl, tf, _, rfl, by rw [hus', List.append_assoc], ha1, ha2, ownOff_add hadd ho, hS, q, DatAll.append (DatAll.mono (fun p hp => List.mem_append_right _ hp) hD) (DatAll.mono (fun p hp => List.mem_append_left _ hp) hDat), hM⟩
      intro p hp
      rcases List.mem_cons.mp hp with rfl | hp
      · exact hI1
      rcases List.mem_cons.mp hp with rfl | hp
      · exact hI2
      rcases List.mem_cons.mp hp with rfl | hp
      · exact hI3
      rcases List.mem_append.mp hp with hp | hp
      · exact (hadd p hp).2.2
      · exact hI4 p hp
end
end Mine

end
section
open PySem PySem.W PySem.Calls PyProof.Rows
set_option Elab.async false
set_option maxRecDepth 100000
namespace Mine

/-- how many signs from here on are letters or figures -/
def run : List Nat → Nat
  | [] => 0
  | c :: r => if Unicode.isAlnum c = true then 1 + run r else 0
structure Tk where
  kind : Int
  text : Str
  b : Nat
  e : Nat
def isTwo (c d : Nat) : Bool := (c == 42 && d == 42) || (c == 45 && d == 62)
theorem run_le : ∀ cs : List Nat, run cs ≤ cs.length
  | [] => Nat.le_refl _
  | c :: r => by
    unfold run
    have := run_le r
    split <;> (simp only [List.length_cons]; omega)

/-- the tokens of what is left, its first sign at k -/
def tks (cs : List Nat) (k : Nat) : List Tk :=
  match cs with
  | c :: d :: r =>
    if c = 32 then tks (d :: r) (k + 1)
    else if isTwo c d = true then ⟨54, ⟨#[c, d]⟩, k, k + 2⟩ :: tks r (k + 2)
    else if Unicode.isAlnum c = true then ⟨1, ⟨(c :: (d :: r).take (run (d :: r))).toArray⟩, k, k + 1 + run (d :: r)⟩ :: tks ((d :: r).drop (run (d :: r))) (k + 1 + run (d :: r))
    else ⟨54, ⟨#[c]⟩, k, k + 1⟩ :: tks (d :: r) (k + 1)
  | _ => []
termination_by cs.length
decreasing_by
  all_goals simp only [List.length_cons, List.length_drop]
  all_goals omega

def toksOf (t : Str) : List Tk := tks t.cps.toList 0 ++ [⟨4, Str.ofString "\n", t.length - 1, t.length⟩]
def tkD (line : Str) (t : Tk) : Dat := .tuple [.int t.kind, .str t.text, .tuple [.int 1, .int t.b], .tuple [.int 1, .int t.e], .str line]

theorem tks_space {d : Nat} {r : List Nat} {k : Nat} : tks (32 :: d :: r) k = tks (d :: r) (k + 1) := by rw [tks, if_pos rfl]
theorem tks_two {c d : Nat} {r : List Nat} {k : Nat} (h : c ≠ 32) (h2 : isTwo c d = true) : tks (c :: d :: r) k = ⟨54, ⟨#[c, d]⟩, k, k + 2⟩ :: tks r (k + 2) := by rw [tks, if_neg h, if_pos h2]
theorem tks_alnum {c d : Nat} {r : List Nat} {k : Nat} (h : c ≠ 32) (h2 : isTwo c d = false) (h3 : Unicode.isAlnum c = true) :
    tks (c :: d :: r) k = ⟨1, ⟨(c :: (d :: r).take (run (d :: r))).toArray⟩, k, k + 1 + run (d :: r)⟩ :: tks ((d :: r).drop (run (d :: r))) (k + 1 + run (d :: r)) := by
  rw [tks, if_neg h, if_neg (by rw [h2]; exact Bool.false_ne_true), if_pos h3]
theorem tks_one {c d : Nat} {r : List Nat} {k : Nat} (h : c ≠ 32) (h2 : isTwo c d = false) (h3 : Unicode.isAlnum c = false) :
    tks (c :: d :: r) k = ⟨54, ⟨#[c]⟩, k, k + 1⟩ :: tks (d :: r) (k + 1) := by
  rw [tks, if_neg h, if_neg (by rw [h2]; exact Bool.false_ne_true), if_neg (by rw [h3]; exact Bool.false_ne_true)]
theorem tks_nil {k : Nat} : tks [] k = [] := by rw [tks]; intro _ _ _ h; cases h
theorem tks_last {c k : Nat} : tks [c] k = [] := by rw [tks]; intro _ _ _ h; cases h
theorem tks_short {cs : List Nat} {k : Nat} (h : cs.length ≤ 1) : tks cs k = [] := by
  match cs, h with
  | [], _ => exact tks_nil
  | [c], _ => exact tks_last
  | _ :: _ :: _, h => simp at h
end Mine

end
section
open PySem PySem.W PySem.Calls PyProof.Rows
set_option Elab.async false
set_option maxRecDepth 100000
namespace Mine
theorem fill5 : (PySem.Challenge.rw_et5026_01 = PySem.Challenge.rw_et5026_01) ∧ (∀ P, hd.heap_39 P = hd.heap_39 P) := by
  k_fill
  exact ⟨rfl, fun _ => rfl⟩

def tkBody : List Stmt := forBody (nth (fnBody (defAt 4)) 2)
def innerW : Stmt := nth (ifThen (nth (ifElse (nth (ifThen (nth tkBody 1)) 1)) 0)) 1
def whTest : Stmt → PySem.Expr | .While t _ _ _ => t | _ => default
def whPos : Stmt → Pos | .While _ _ _ p => p | _ => default

theorem item_is {t : Str} {k c : Nat} {r : List Nat} (h : t.cps.toList.drop k = c :: r) : Txt.item t (k : Int) = ⟨#[c]⟩ := by
  refine item_meets (Int.natCast_nonneg k) ?_
  rw [Int.toNat_natCast, ← Array.getElem?_toList]
  have : (t.cps.toList.drop k)[0]? = some c := by rw [h]; rfl
  rw [List.getElem?_drop] at this
  simpa using this
theorem isalnum_one (c : Nat) : Txt.isalnum ⟨#[c]⟩ = Unicode.isAlnum c := by
  unfold Txt.isalnum
  simp [Str.length]
theorem drop_cons {cs : List Nat} {k : Nat} (h : k < cs.length) : ∃ c r, cs.drop k = c :: r ∧ cs.drop (k + 1) = r := by
  refine ⟨cs[k], cs.drop (k + 1), List.drop_eq_getElem_cons h, rfl⟩
theorem str_len (t : Str) : t.length = t.cps.toList.length := by simp [Str.length]

theorem whl_by {b : Bool} {T F : Prop} (ht : b = true → T) (hf : b = false → F) : WhlIf b T F := by
  cases b with
  | true => exact WhlIf.yes rfl (ht rfl)
  | false => exact WhlIf.no rfl (hf rfl)
local macro_rules | `(tactic| walk_at "WhlIf") => `(tactic| (refine' whl_by ?_ ?_ <;> intro hb'))
local macro_rules | `(tactic| tb_start) => `(tactic| repeat' ((fail_if_success (with_reducible show WhlRest _ _ _ _ _ _ _ _ _ _ _)); (first | (k_unfold; (try dsimp only)) | (k_end; wrow_close) | walk1 | (dsimp only; walk1) | (leave1; walk_say "STEP leave1"; try dsimp only) | fail "no step")))

section
variable {prog : Program} {w : World} {dp un : Nat} {fr : Option (List Env)} {gd : Option (List Code)} {s : Shared} {g : Heap} {mean : ExcName → Option Value} {mg mb : Str → Option Value}
set_option maxHeartbeats 8000000 in
theorem alnum_loop {Q : Flow → Shared → Prop} {L : Addr} {t : Str} {tt : Tok} {END : Nat} {news : List (Addr × Obj)}
    (X : (hd.heap_39 w.params).In g) (T : Top hd.view_39 (looseW hd.view_39 []) mean mg mb g) (hfit : t.length ≤ 1000) (hEND : END < t.length) :
    ∀ (d e : Nat) (te : Tok) (m : Str → Option Value) (h : Heap) (tk : Nat), e + d = END → e + run (t.cps.toList.drop e) = END → Fr g L h m →
      (∀ p ∈ ([(Str.ofString "text", .str t tt), (Str.ofString "end", .int (e : Int) te)] : List (Str × Value)), m p.1 = some p.2) → News g L h news →
      (∀ (te' : Tok) (m' : Str → Option Value) (h' : Heap) (tk' : Nat), Fr g L h' m' → m' (Str.ofString "end") = some (.int (END : Int) te') → (∀ y, y ≠ Str.ofString "end" → m' y = m y) → News g L h' news → Q .next { s with heap := h', toks := tk' }) →
      WhlRest prog w ((Ar dp un fr gd).deeper (envOf (Str.ofString "_law_tokens") (fnScope (defAt 4)) L 35 (.ref 34))) (fun _ _ => False) (envOf (Str.ofString "_law_tokens") (fnScope (defAt 4)) L 35 (.ref 34)) (whTest innerW) (forBody innerW) [] Q (d + 1) { s with heap := h, toks := tk } := by
  intro d
  induction d with
  | zero =>
    intro e te m h tk hd he F hm N ret
    obtain ⟨c, r, hc, hr⟩ := drop_cons (cs := t.cps.toList) (k := e) (by rw [← str_len]; omega)
    have hit : Txt.isalnum (Txt.item t (e : Int)) = Unicode.isAlnum c := by rw [item_is hc, isalnum_one]
    have hn : Unicode.isAlnum c = false := by
      cases hcc : Unicode.isAlnum c with
      | false => rfl
      | true =>
        rw [hc, run, if_pos hcc] at he
        omega
    rw [ov_of hm] at F
    dsimp only [innerW, tkBody, defAt, PySem.Challenge.pw_et5026_01, nth, fnBody, forBody, ifElse, ifThen, fnScope, whTest]
    have kMark := kdMark
    w_on
    have hlt : (e : Int) < (t.length : Int) := by omega
    k_dflt (refine' whl_turn ?hE ?_; (case hE => first | passes_own | with_unfolding_all passes_own))
    w_strict tb_start
    all_goals (rename Fr _ _ _ _ => F'; rename News _ _ _ _ => N'; rename Txt.isalnum _ = _ => hb)
    · rw [hit, hn] at hb; cases hb
    · have h0 : e = END := by omega
      subst h0
      exact ret te _ _ _ F' rfl (fun y hy => by rw [← ov_of hm]) N'
  | succ d ih =>
    intro e te m h tk hd he F hm N ret
    obtain ⟨c, r, hc, hr⟩ := drop_cons (cs := t.cps.toList) (k := e) (by rw [← str_len]; omega)
    have hit : Txt.isalnum (Txt.item t (e : Int)) = Unicode.isAlnum c := by rw [item_is hc, isalnum_one]
    have hn : Unicode.isAlnum c = true := by
      cases hcc : Unicode.isAlnum c with
      | true => rfl
      | false =>
        rw [hc, run, if_neg (by rw [hcc]; exact Bool.false_ne_true)] at he
        omega
    rw [ov_of hm] at F
    dsimp only [innerW, tkBody, defAt, PySem.Challenge.pw_et5026_01, nth, fnBody, forBody, ifElse, ifThen, fnScope, whTest]
    have kMark := kdMark
    w_on
    have hlt : (e : Int) < (t.length : Int) := by omega
    k_dflt (refine' whl_turn ?hE ?_; (case hE => first | passes_own | with_unfolding_all passes_own))
    w_strict tb_start
    all_goals (rename Fr _ _ _ _ => F'; rename News _ _ _ _ => N'; rename Txt.isalnum _ = _ => hb)
    · have e1 : ((e : Int) + 1) = ((e + 1 : Nat) : Int) := by omega
      rw [e1] at F'
      refine ih (e + 1) _ _ _ _ (by omega) ?_ F' (by intro p hp; simp only [List.mem_cons, List.not_mem_nil, or_false] at hp; rcases hp with rfl | rfl <;> rfl) N' ?_
      · rw [hc, run, if_pos hn] at he
        rw [hr]
        omega
      · intro te' m' h' tk' F2 h2 h3 N2
        refine ret te' m' h' tk' F2 h2 (fun y hy => ?_) N2
        rw [h3 y hy]
        rw [if_neg hy, ← ov_of hm]
    · rw [hit, hn] at hb; cases hb
end
end Mine

end
section
open PySem PySem.W PySem.Calls PyProof.Rows
set_option Elab.async false
set_option maxRecDepth 100000
namespace Mine
theorem fill6 : (PySem.Challenge.rw_et5026_01 = PySem.Challenge.rw_et5026_01) ∧ (∀ P, hd.heap_39 P = hd.heap_39 P) := by
  k_fill
  exact ⟨rfl, fun _ => rfl⟩

local macro_rules | `(tactic| size_fits) => `(tactic| ((simp only [Str.length_append, List.size_toArray, PySem.sizeLine_eq]); omega))
local macro_rules | `(tactic| walk_at "call builtin:list.append") => `(tactic| (k_here; k_dflt (refine' append_K ?k1 ?k2 ?k3 ?_ ?z; (case k1 => k_asm); (case k2 => k_asm); (case k3 => k_upd); (case z => size_fits); k_whole); intro h' F' N'; (try k_sweep)))
local macro_rules | `(tactic| walk_at "WhlIf") => `(tactic| (refine' whl_by ?_ ?_ <;> intro hb'))
local macro_rules | `(tactic| tb_start) => `(tactic| repeat' ((fail_if_success (with_reducible show WhlRest _ _ _ _ _ _ _ _ _ _ _)); (fail_if_success (with_reducible show wpAny _ _ (exec (Stmt.While _ _ _ _) _) _ _ _)); (first | (k_unfold; (try dsimp only)) | (k_end; wrow_close) | walk1 | (dsimp only; walk1) | (leave1; walk_say "STEP leave1"; try dsimp only) | fail "no step")))

theorem nl_alnum : Unicode.isAlnum 10 = false := by decide +kernel
theorem run_end : ∀ (b : List Nat), run (b ++ [10]) < (b ++ [10]).length
  | [] => by rw [List.nil_append, run, if_neg (by rw [nl_alnum]; exact Bool.false_ne_true)]; exact Nat.zero_lt_one
  | c :: r => by
    have := run_end r
    rw [List.cons_append, run]
    split <;> (rw [List.length_cons]; omega)
theorem drop_end {cs b : List Nat} (h : cs = b ++ [10]) {j : Nat} (hj : j < cs.length) : ∃ b', cs.drop j = b' ++ [10] := by
  subst h
  rw [List.length_append, List.length_singleton] at hj
  exact ⟨b.drop j, by rw [List.drop_append_of_le_length (by omega)]⟩
theorem run_lt {cs b : List Nat} (h : cs = b ++ [10]) {j : Nat} (hj : j < cs.length) : j + run (cs.drop j) < cs.length := by
  obtain ⟨b', e⟩ := drop_end h hj
  have := run_end b'
  rw [← e, List.length_drop] at this
  omega

theorem slice_is {t : Str} {k j : Nat} (h1 : k ≤ j) (h2 : j ≤ t.length) : Txt.slice t (some (k : Int)) (some (j : Int)) = ⟨((t.cps.toList.drop k).take (j - k)).toArray⟩ := by
  have := slice_closesL (x := t) (i := (k : Int)) (j := (j : Int)) (Int.natCast_nonneg k) (by omega) (by omega)
  rw [beq_iff_eq] at this
  rw [this]
  have e : ((j : Int) - (k : Int)).toNat = j - k := by omega
  rw [e, Int.toNat_natCast]
theorem two_any {c d : Nat} : ([Str.ofString "**", Str.ofString "->"].any fun x => x == ⟨#[c, d]⟩) = isTwo c d := by
  have e1 : Str.ofString "**" = ⟨#[42, 42]⟩ := by decide +kernel
  have e2 : Str.ofString "->" = ⟨#[45, 62]⟩ := by decide +kernel
  rw [e1, e2]
  rw [Bool.eq_iff_iff]
  simp [isTwo]
  omega
theorem sp_ne {c : Nat} : ((⟨#[c]⟩ : Str) != Str.ofString " ") = true ↔ c ≠ 32 := by
  have e1 : Str.ofString " " = ⟨#[32]⟩ := by decide +kernel
  rw [e1]
  simp
theorem dat_tok {L : List (Addr × Obj)} {a b1 b2 : Addr} {kind : Int} {b e : Nat} {x line : Str} {t1 t2 t3 t4 t5 t6 t7 : Tok} {n n1 n2 : Nat} (h : (a, ({ cls := .type "tuple", data := .seq #[.int kind t1, .str x t2, .ref b1, .ref b2, .str line t3] n } : Obj)) ∈ L)
    (h1 : (b1, ({ cls := .type "tuple", data := .seq #[.int 1 t4, .int (b : Int) t5] n1 } : Obj)) ∈ L) (h2 : (b2, ({ cls := .type "tuple", data := .seq #[.int 1 t6, .int (e : Int) t7] n2 } : Obj)) ∈ L) : DatIn L (.ref a) (tkD line ⟨kind, x, b, e⟩) :=
  DatIn.tuple (vs := [.int kind t1, .str x t2, .ref b1, .ref b2, .str line t3]) h (.cons (.int _ _) (.cons (.str _ _) (.cons (DatIn.tuple (vs := [.int 1 t4, .int (b : Int) t5]) h1 (.cons (.int _ _) (.cons (.int _ _) .nil))) (.cons (DatIn.tuple (vs := [.int 1 t6, .int (e : Int) t7]) h2 (.cons (.int _ _) (.cons (.int _ _) .nil))) (.cons (.str _ _) .nil)))))
theorem news_re5 {g h : Heap} {L : Addr} {p1 p2 p3 p4 p5 q : Addr × Obj} {tl : List (Addr × Obj)} (N : News g L h (p1 :: p2 :: p3 :: p4 :: p5 :: q :: tl)) : News g L h (q :: ([p1, p2, p3] ++ tl)) := fun p hp => N p (by
  simp only [List.mem_cons, List.mem_append, List.not_mem_nil, or_false] at hp ⊢
  rcases hp with h | (h | h | h) | h <;> simp [h])
theorem off3 {add tl : List (Addr × Obj)} {tok : Addr} (h : ∀ p ∈ add, @Ne Nat p.1 tok) (ho : OwnOff tl [tok]) : OwnOff (add ++ tl) [tok] := by
  intro p hp b hb
  rcases List.mem_append.mp hp with hp | hp
  · rw [List.mem_singleton.mp hb]; exact h p hp
  · exact ho p hp b hb
theorem dat_step {add tl : List (Addr × Obj)} {vs : List Value} {v : Value} {t : Str} {done : List Tk} {x : Tk} (hD : DatAll tl vs (done.map (tkD t))) (h : DatIn add v (tkD t x)) : DatAll (add ++ tl) (vs ++ [v]) ((done ++ [x]).map (tkD t)) := by
  rw [List.map_append]
  exact DatAll.append (DatAll.mono (fun p hp => List.mem_append_right _ hp) hD) (DatAll.one (DatIn.mono (fun p hp => List.mem_append_left _ hp) h))

section
variable {prog : Program} {w : World} {dp un : Nat} {fr : Option (List Env)} {gd : Option (List Code)} {s : Shared} {g : Heap} {mean : ExcName → Option Value} {mg mb : Str → Option Value}
set_option maxHeartbeats 8000000 in
theorem tok_loop {Q : Flow → Shared → Prop} {L tok : Addr} {t : Str} {tt : Tok} {body : List Nat}
    (X : (hd.heap_39 w.params).In g) (T : Top hd.view_39 (looseW hd.view_39 []) mean mg mb g) (hdp : dp + 20 < recursionLimit) (hun : un + 250 < cLine) (hfit : t.length ≤ 1000) (hend : t.cps.toList = body ++ [10])
    (ret : ∀ (nn : Nat) (vs : List Value) (tl : List (Addr × Obj)) (m' : Str → Option Value) (h' : Heap) (tk' : Nat), Fr g L h' m' → (∀ p ∈ ([(Str.ofString "text", .str t tt), (Str.ofString "tokens", .ref tok)] : List (Str × Value)), m' p.1 = some p.2) →
      News g L h' ((tok, listOf vs.toArray nn) :: tl) → OwnOff tl [tok] → DatAll tl vs ((tks t.cps.toList 0).map (tkD t)) → vs.length ≤ t.length → Q .next { s with heap := h', toks := tk' }) :
    ∀ (d k : Nat) (kt : Tok) (m : Str → Option Value) (h : Heap) (tk9 nn kk : Nat) (vs : List Value) (tl : List (Addr × Obj)) (done : List Tk), t.length ≤ k + d → k + 1 ≤ t.length → done ++ tks (t.cps.toList.drop k) k = tks t.cps.toList 0 →
      Fr g L h m → (∀ p ∈ ([(Str.ofString "text", .str t tt), (Str.ofString "tokens", .ref tok), (Str.ofString "k", .int (k : Int) kt)] : List (Str × Value)), m p.1 = some p.2) → News g L h ((tok, listOf vs.toArray nn) :: tl) → OwnOff tl [tok] →
      DatAll tl vs (done.map (tkD t)) → vs.length ≤ k →
      WhlRest prog w ((Ar dp un fr gd).deeper (envOf (Str.ofString "_law_tokens") (fnScope (defAt 4)) L 35 (.ref 34))) (fun _ _ => False) (envOf (Str.ofString "_law_tokens") (fnScope (defAt 4)) L 35 (.ref 34)) (whTest (nth (fnBody (defAt 4)) 2)) tkBody [] Q kk { s with heap := h, toks := tk9 } := by
  intro d
  induction d with
  | zero => intro k kt m h tk9 nn kk vs tl done h1 h2; omega
  | succ d ih =>
    intro k kt m h tk9 nn kk vs tl done h1 h2 hdone F hm N ho hD hv
    rw [ov_of hm] at F
    have hn := str_len t
    have hlt : (k : Int) < (t.length : Int) := by omega
    clear hm
    dsimp only [tkBody, defAt, PySem.Challenge.pw_et5026_01, nth, fnBody, forBody, ifElse, ifThen, fnScope, whTest]
    have kMark := kdMark
    w_on
    show WhlRest _ _ _ _ _ _ _ _ _ (0 + 1) _
    k_dflt (refine' whl_turn ?hE ?_; (case hE => first | passes_own | with_unfolding_all passes_own))
    w_strict tb_start
    all_goals (rename Fr _ _ _ _ => F'; rename News _ _ _ _ => N'; rename decide _ = _ => hb; simp only [decide_eq_true_eq, decide_eq_false_iff_not] at hb)
    · obtain ⟨c, r1, hc, hr⟩ := drop_cons (cs := t.cps.toList) (k := k) (by omega)
      obtain ⟨c2, r, hc2, hr2⟩ := drop_cons (cs := t.cps.toList) (k := k + 1) (by omega)
      rw [hr] at hc2
      subst hc2
      have hit := item_is hc
      have hsl : Txt.slice t (some (k : Int)) (some ((k : Int) + 2)) = ⟨#[c, c2]⟩ := by
        have := slice_is (t := t) (k := k) (j := k + 2) (by omega) (by omega)
        rw [hc, show k + 2 - k = 2 by omega] at this
        exact this
      rename (Txt.item _ _ != _) = true => hs
      rename List.any _ _ = true => ht
      rw [hit, sp_ne] at hs
      rw [hsl, two_any] at ht
      rw [hsl] at N'
      simp only [List.push_toArray] at N'
      rw [hc, tks_two hs ht] at hdone
      have hk2 : k + 2 + 1 ≤ t.length := by
        rcases Nat.lt_or_ge (k + 2) t.length with h | h
        · omega
        · exfalso
          have e1 : t.length = k + 2 := by omega
          have e2 : r = [] := by
            have : (t.cps.toList.drop (k + 1)).length = (c2 :: r).length := by rw [hr]
            rw [List.length_drop, List.length_cons] at this
            exact List.eq_nil_of_length_eq_zero (by omega)
          obtain ⟨b', e3⟩ := drop_end hend (j := k + 1) (by omega)
          rw [hr, e2] at e3
          have e4 : c2 = 10 := by
            cases b' with
            | nil => simpa using e3
            | cons x y => simp at e3
          subst e4
          simp [isTwo] at ht
      have ek : ((k : Int) + 2) = ((k + 2 : Nat) : Int) := by omega
      rw [ek] at F' N'
      have N2 := news_re5 N'
      refine ih (k + 2) _ _ _ _ _ _ _ _ (done ++ [⟨54, ⟨#[c, c2]⟩, k, k + 2⟩]) (by omega) hk2 ?_ F' (by intro p hp; simp only [List.mem_cons, List.not_mem_nil, or_false] at hp; rcases hp with rfl | rfl | rfl <;> rfl) N2 (off3 (by intro p hp; simp only [List.mem_cons, List.not_mem_nil, or_false] at hp; rcases hp with rfl | rfl | rfl <;> (dsimp only; omega)) ho) (dat_step hD (dat_tok (.head _) (.tail _ (.tail _ (.head _))) (.tail _ (.head _)))) (by rw [List.length_append, List.length_singleton]; omega)
      rw [List.append_assoc, List.singleton_append, ← hdone]
      have : t.cps.toList.drop (k + 2) = r := hr2
      rw [this]
    · obtain ⟨c, r1, hc, hr⟩ := drop_cons (cs := t.cps.toList) (k := k) (by omega)
      obtain ⟨c2, r, hc2, hr2⟩ := drop_cons (cs := t.cps.toList) (k := k + 1) (by omega)
      rw [hr] at hc2
      subst hc2
      have hit := item_is hc
      have hsl : Txt.slice t (some (k : Int)) (some ((k : Int) + 2)) = ⟨#[c, c2]⟩ := by
        have := slice_is (t := t) (k := k) (j := k + 2) (by omega) (by omega)
        rw [hc, show k + 2 - k = 2 by omega] at this
        exact this
      rename (Txt.item _ _ != _) = true => hs
      rename List.any _ _ = false => ht
      rename Txt.isalnum _ = true => ha
      rw [hit, sp_ne] at hs
      rw [hsl, two_any] at ht
      rw [hit, isalnum_one] at ha
      rw [hc, tks_alnum hs ht ha] at hdone
      have hE := run_lt hend (j := k + 1) (by omega)
      rw [hr] at hE
      have ek : ((k : Int) + 1) = ((k + 1 : Nat) : Int) := by omega
      rw [ek] at F'
      refine whl_start (run (c2 :: r) + 1) ?_
      try dsimp only
      refine alnum_loop (t := t) (tt := tt) (END := k + 1 + run (c2 :: r)) X T hfit (by omega) (run (c2 :: r)) (k + 1) _ _ _ _ rfl (by rw [hr]) F' (by intro p hp; simp only [List.mem_cons, List.not_mem_nil, or_false] at hp; rcases hp with rfl | rfl <;> rfl) N' ?_
      intro te' m' h' tk' F2 h2 h3 N2
      obtain ⟨kt2, hk2⟩ : ∃ kt2, m' (Str.ofString "kind") = some (.int 1 kt2) := ⟨_, by rw [h3 _ (by decide)]; rfl⟩
      have q1 : m' (Str.ofString "text") = some (.str t tt) := by rw [h3 _ (by decide)]; rfl
      have q2 : m' (Str.ofString "tokens") = some (.ref tok) := by rw [h3 _ (by decide)]; rfl
      have q3 : m' (Str.ofString "k") = some (.int (k : Int) kt) := by rw [h3 _ (by decide)]; rfl
      have hm2 : ∀ p ∈ ([(Str.ofString "text", .str t tt), (Str.ofString "tokens", .ref tok), (Str.ofString "k", .int (k : Int) kt), (Str.ofString "kind", .int 1 kt2), (Str.ofString "end", .int ((k + 1 + run (c2 :: r) : Nat) : Int) te')] : List (Str × Value)), m' p.1 = some p.2 := by
        intro p hp
        simp only [List.mem_cons, List.not_mem_nil, or_false] at hp
        rcases hp with rfl | rfl | rfl | rfl | rfl
        · exact q1
        · exact q2
        · exact q3
        · exact hk2
        · exact h2
      rw [ov_of hm2] at F2
      clear hm2 h3 h2 q1 q2 q3 hk2 F' N'
      try dsimp only
      w_strict tb_start
      (rename Fr _ _ _ _ => F'; rename News _ _ _ _ => N')
      simp only [List.push_toArray] at N'
      have hsl2 : Txt.slice t (some (k : Int)) (some ((k + 1 + run (c2 :: r) : Nat) : Int)) = ⟨(c :: (c2 :: r).take (run (c2 :: r))).toArray⟩ := by
        rw [slice_is (by omega) (by omega), hc, show k + 1 + run (c2 :: r) - k = run (c2 :: r) + 1 by omega, List.take_succ_cons]
      rw [hsl2] at N'
      have N3 := news_re5 N'
      refine ih (k + 1 + run (c2 :: r)) _ _ _ _ _ _ _ _ (done ++ [⟨1, ⟨(c :: (c2 :: r).take (run (c2 :: r))).toArray⟩, k, k + 1 + run (c2 :: r)⟩]) (by omega) (by omega) ?_ F' (by intro p hp; simp only [List.mem_cons, List.not_mem_nil, or_false] at hp; rcases hp with rfl | rfl | rfl <;> rfl) N3 (off3 (by intro p hp; simp only [List.mem_cons, List.not_mem_nil, or_false] at hp; rcases hp with rfl | rfl | rfl <;> (dsimp only; omega)) ho) (dat_step hD (dat_tok (.head _) (.tail _ (.tail _ (.head _))) (.tail _ (.head _)))) (by rw [List.length_append, List.length_singleton]; omega)
      rw [List.append_assoc, List.singleton_append, ← hdone, ← hr, List.drop_drop]
    · obtain ⟨c, r1, hc, hr⟩ := drop_cons (cs := t.cps.toList) (k := k) (by omega)
      obtain ⟨c2, r, hc2, hr2⟩ := drop_cons (cs := t.cps.toList) (k := k + 1) (by omega)
      rw [hr] at hc2
      subst hc2
      have hit := item_is hc
      have hsl : Txt.slice t (some (k : Int)) (some ((k : Int) + 2)) = ⟨#[c, c2]⟩ := by
        have := slice_is (t := t) (k := k) (j := k + 2) (by omega) (by omega)
        rw [hc, show k + 2 - k = 2 by omega] at this
        exact this
      have hsl1 : Txt.slice t (some (k : Int)) (some ((k : Int) + 1)) = ⟨#[c]⟩ := by
        have := slice_is (t := t) (k := k) (j := k + 1) (by omega) (by omega)
        rw [hc, show k + 1 - k = 1 by omega] at this
        exact this
      rename (Txt.item _ _ != _) = true => hs
      rename List.any _ _ = false => ht
      rename Txt.isalnum _ = false => ha
      rw [hit, sp_ne] at hs
      rw [hsl, two_any] at ht
      rw [hit, isalnum_one] at ha
      rw [hsl1] at N'
      simp only [List.push_toArray] at N'
      rw [hc, tks_one hs ht ha] at hdone
      have ek : ((k : Int) + 1) = ((k + 1 : Nat) : Int) := by omega
      rw [ek] at F' N'
      have N2 := news_re5 N'
      refine ih (k + 1) _ _ _ _ _ _ _ _ (done ++ [⟨54, ⟨#[c]⟩, k, k + 1⟩]) (by omega) (by omega) ?_ F' (by intro p hp; simp only [List.mem_cons, List.not_mem_nil, or_false] at hp; rcases hp with rfl | rfl | rfl <;> rfl) N2 (off3 (by intro p hp; simp only [List.mem_cons, List.not_mem_nil, or_false] at hp; rcases hp with rfl | rfl | rfl <;> (dsimp only; omega)) ho) (dat_step hD (dat_tok (.head _) (.tail _ (.tail _ (.head _))) (.tail _ (.head _)))) (by rw [List.length_append, List.length_singleton]; omega)
      rw [List.append_assoc, List.singleton_append, ← hdone, hr]
    · obtain ⟨c, r1, hc, hr⟩ := drop_cons (cs := t.cps.toList) (k := k) (by omega)
      obtain ⟨c2, r, hc2, hr2⟩ := drop_cons (cs := t.cps.toList) (k := k + 1) (by omega)
      rw [hr] at hc2
      subst hc2
      have hit := item_is hc
      rename (Txt.item _ _ != _) = false => hs
      rw [hit] at hs
      have hs' : c = 32 := by
        by_cases h : c = 32
        · exact h
        · rw [sp_ne.mpr h] at hs; cases hs
      subst hs'
      rw [hc, tks_space] at hdone
      have ek : ((k : Int) + 1) = ((k + 1 : Nat) : Int) := by omega
      rw [ek] at F' N'
      refine ih (k + 1) _ _ _ _ _ _ _ _ done (by omega) (by omega) ?_ F' (by intro p hp; simp only [List.mem_cons, List.not_mem_nil, or_false] at hp; rcases hp with rfl | rfl | rfl <;> rfl) (fun p hp => N' p (.tail _ hp)) ho hD (by omega)
      rw [hr, hdone]
    · have hk1 : t.length = k + 1 := by omega
      rw [tks_short (by rw [List.length_drop]; omega), List.append_nil] at hdone
      subst hdone
      exact ret _ _ _ _ _ _ F' (by intro p hp; simp only [List.mem_cons, List.not_mem_nil, or_false] at hp; rcases hp with rfl | rfl <;> rfl) N' ho hD (by omega)
end
end Mine

end
section
open PySem PySem.W PySem.Calls PyProof.Rows
set_option Elab.async false
set_option maxRecDepth 100000
namespace Mine
theorem fill7 : (PySem.Challenge.rw_et5026_01 = PySem.Challenge.rw_et5026_01) ∧ (∀ P, hd.heap_39 P = hd.heap_39 P) := by
  k_fill
  exact ⟨rfl, fun _ => rfl⟩

local macro_rules | `(tactic| size_fits) => `(tactic| ((simp only [Str.length_append, List.size_toArray, PySem.sizeLine_eq]); omega))
local macro_rules | `(tactic| tb_start) => `(tactic| repeat' ((fail_if_success (with_reducible show wpAny _ _ (exec (Stmt.While _ _ _ _) _) _ _ _)); (first | (k_unfold; (try dsimp only)) | (k_end; wrow_close) | walk1 | (dsimp only; walk1) | (leave1; walk_say "STEP leave1"; try dsimp only) | fail "no step")))

section
variable {prog : Program} {w : World} {dp un : Nat} {fr : Option (List Env)} {gd : Option (List Code)} {s : Shared} {h₀ : Heap} {mean : ExcName → Option Value} {mg mb : Str → Option Value} {R : Result → Shared → Prop}
set_option maxHeartbeats 8000000 in
theorem tokens_code {t : Str} {tt : Tok} {body : List Nat}
    (hk : h₀.StaysIn s.heap) (X : (hd.heap_39 w.params).In h₀) (T : Top hd.view_39 (looseW hd.view_39 []) mean mg mb h₀) (hdp : dp + 30 < recursionLimit) (hun : un + 280 < cLine)
    (hfit : t.length ≤ 1000) (hend : t.cps.toList = body ++ [10])
    (hret : ∀ (l : Addr) (own : List (Addr × Obj)) (h' : Heap) (tk' : Nat), DatIn own (.ref l) (.list ((toksOf t).map (tkD t))) →
      (∀ b o, s.heap.get? b = some o → h'.get? b = some o) → (∀ p ∈ own, h'.get? p.1 = some p.2 ∧ s.heap.get? p.1 = none) → R (.ok (.ret (.ref l))) { s with heap := h', toks := tk' }) :
    codeAny (model prog w) (Ar dp un fr gd) (.call (.ref 35) ⟨[.str t tt], []⟩) R s := by
  refine enterN (K := hd.heap_39 w.params) (binds := [(Str.ofString "text", .str t tt)]) (news := []) hk X T (fun _ hq => nomatch hq) (by k_is) (by k_is) (by show dp < recursionLimit; omega) (BindsTo.of_eq rfl) (locs rfl) ?_ rfl rfl rfl (by decide)
  intro g L' h₁ hg hL F N X' T'
  have hg' : g = s.heap := hg
  clear hg
  subst hg'
  have hn := str_len t
  have hpos : 0 < t.length := by rw [hn, hend]; simp
  clear hk X T
  w_on
  generalize s.toks + _ = tk0
  try k_fold
  w_strict tb_start
  have kMark := kdMark
  (rename Fr _ _ _ _ => F'; rename News _ _ _ _ => N')
  refine whl_start (t.length + 1) ?_
  try dsimp only
  refine tok_loop (t := t) (tt := tt) X' T' (by omega) (by omega) hfit hend ?_ t.length 0 _ _ _ _ 0 _ [] [] [] (by omega) (by omega) rfl F' (by intro p hp; simp only [List.mem_cons, List.not_mem_nil, or_false] at hp; rcases hp with rfl | rfl | rfl <;> rfl) N' (fun _ hp => nomatch hp) .nil (Nat.le_refl _)
  intro nn vs tl m' h' tk' F2 hm N2 ho hD hv
  rw [ov_of hm] at F2
  clear hm F' N'
  try dsimp only
  w_strict tb_start
  dsimp only
  (rename Fr _ _ _ _ => F'; rename News _ _ _ _ => N')
  have e2 : ((t.length : Nat) : Int) - 1 = ((t.length - 1 : Nat) : Int) := by omega
  simp only [e2] at N'
  refine hret _ _ _ _ (DatIn.list (vs := vs ++ [.ref _]) (.head _) ?_) (fun b o e => F'.keep b o e) (fun p hp => ⟨(N' p hp).1, (N' p hp).2.2⟩)
  unfold toksOf
  rw [List.map_append]
  refine DatAll.append (DatAll.mono (fun p hp => ?_) hD) (DatAll.one (dat_tok (.tail _ (.tail _ (.head _))) (.tail _ (.tail _ (.tail _ (.tail _ (.head _))))) (.tail _ (.tail _ (.tail _ (.head _))))))
  iterate 6 refine List.Mem.tail _ ?_
  exact hp
end
end Mine

end
section
open PySem PySem.W PySem.Calls PyProof.Rows
set_option Elab.async false
set_option maxRecDepth 100000
namespace Mine
def preT : List Str := [Str.ofString "def ", Str.ofString "async def "]
def dnameT : List Str := [Str.ofString "f", Str.ofString "l", Str.ofString "O", Str.ofString "I", Str.ofString "g"]
def retT : List Str := [Str.ofString "", Str.ofString " -> int", Str.ofString " -> l"]
def bodyT : List (Str × Int × Str) := [(Str.ofString "", -1, Str.ofString ""), (Str.ofString " pass", -1, Str.ofString ""), (Str.ofString " l = 1", 1, Str.ofString "l"), (Str.ofString " return l", -1, Str.ofString ""), (Str.ofString " x = O", -1, Str.ofString ""), (Str.ofString " for O in x: pass", 5, Str.ofString "O"), (Str.ofString " I: int = 1", -1, Str.ofString ""), (Str.ofString " l: int", -1, Str.ofString "")]
def lamT : List Str := [Str.ofString "0", Str.ofString "l", Str.ofString "a + O"]
def restT : List Str := [Str.ofString ")", Str.ofString ", l)", Str.ofString ", O=1)"]
def plainT : List Str := [Str.ofString "g(l, O)", Str.ofString "g(l=1)", Str.ofString "a = [l, O]", Str.ofString "l.x = 1", Str.ofString "x = l + I"]
def dueF (k : Int) (x : Str) : List Dat := if x ∈ hardT then [place k (e743 x)] else []
def dueB (k p : Int) (x : Str) : List Dat := if 0 ≤ p then [place (k + p) (e741 x)] else []
def defHead (pre name : Str) : Str := (pre ++ name) ++ Str.ofString "("
def defTail (t ret : Str) : Str := ((t ++ Str.ofString ")") ++ ret) ++ Str.ofString ":"

/-- what _law_row may build -/
inductive RowS : Str → List Dat → Prop
  | dfn {pre name t ret body nm : Str} {i : Nat} {p : Int} {ds : List Dat} : pre ∈ preT → name ∈ dnameT → PRun true false (defHead pre name) i t ds → (1 ≤ i ∧ i ≤ 5) → ret ∈ retT → (body, p, nm) ∈ bodyT →
      RowS ((defTail t ret ++ body) ++ Str.ofString "\n") ((dueF pre.length name ++ ds) ++ dueB (defTail t ret).length p nm)
  | lam0 {x : Str} : x ∈ lamT → RowS ((Str.ofString "h = lambda: " ++ x) ++ Str.ofString "\n") []
  | lam {t x : Str} {i : Nat} {ds : List Dat} : PRun false true (Str.ofString "h = lambda ") i t ds → (1 ≤ i ∧ i ≤ 5) → x ∈ lamT → RowS (((t ++ Str.ofString ": ") ++ x) ++ Str.ofString "\n") ds
  | call {t x y : Str} {i : Nat} {ds : List Dat} : PRun false false (Str.ofString "g(x, lambda ") i t ds → (1 ≤ i ∧ i ≤ 5) → x ∈ lamT → y ∈ restT → RowS ((((t ++ Str.ofString ": ") ++ x) ++ y) ++ Str.ofString "\n") ds
  | plain {x : Str} : x ∈ plainT → RowS (x ++ Str.ofString "\n") []
end Mine

end
section
open PySem PySem.W PySem.Calls PyProof.Rows
set_option Elab.async false
set_option maxRecDepth 100000
namespace Mine
theorem fillM : (PySem.Challenge.rw_et5026_01 = PySem.Challenge.rw_et5026_01) ∧ (∀ P, hd.heap_39 P = hd.heap_39 P) := by
  k_fill
  exact ⟨rfl, fun _ => rfl⟩
section
variable {prog : Program} {w : World} {dp un : Nat} {fr : Option (List Env)} {gd : Option (List Code)} {s : Shared} {h₀ : Heap} {mean : ExcName → Option Value} {mg mb : Str → Option Value} {E : Value → Shared → Prop} {L : Addr} {m : Str → Option Value} {news : List (Addr × Obj)} {cn : Str} {cs : Scope} {ca : Addr} {ccd : Value}

/-- the call _law_next(state, many), as an expression -/
theorem nextcall_eval {Q : Value → Shared → Prop} {st sc : Addr} {i x many : Int} {t1 t2 : Tok} {n k : Nat} {news' : Obj → List (Addr × Obj)} {p2 p3 p4 p5 : Pos}
    (F : Fr h₀ L s.heap m) (X : (hd.heap_39 w.params).In h₀) (T : Top hd.view_39 (looseW hd.view_39 []) mean mg mb h₀) (N : News h₀ L s.heap news)
    (U : ∀ o', Upd st (listOf #[.ref sc, .int i t1, .int x t2] n) o' news (news' o')) (hsc : Sc s.heap sc) (B : StF i x)
    (hm : 0 < many) (hm1 : many < 1000) (hdp : dp + 10 < recursionLimit) (hun : un + 200 < cLine) (hv : m (Str.ofString "state") = some (.ref st))
    (hk : cs.kind = .function) (k1 : (envOf cn cs L ca ccd).kindOf (Str.ofString "_law_next") = some .globalImplicit) (k2 : (envOf cn cs L ca ccd).kindOf (Str.ofString "state") = some .local)
    (h : ∀ r i' x' t t1' t2' n' h' tk', 0 ≤ r → r < many → StF i' x' → Fr h₀ L h' m → News h₀ L h' (news' (listOf #[.ref sc, .int i' t1', .int x' t2'] n')) → Q (.int r t) { s with heap := h', toks := tk' }) :
    wpAny (model prog w) (Ar dp un fr gd) (eval (.Call (.Name (Str.ofString "_law_next") p2) [.Name (Str.ofString "state") p3, .Constant (.int many) k p4] [] p5) (envOf cn cs L ca ccd)) Q E s := by
  refine Call_ ?_
  refine name_K (K := hd.heap_39 w.params) F X (topRead_of T) (by k_is) ?_ hk k1 (by decide)
  refine callWith_K (K := hd.heap_39 w.params) X (by k_is) ?_
  refine spliced_more (ld F hv ?_ hk k2 (by decide))
  refine spliced_more (wpAny_Constant_int ?_)
  refine spliced_none ?_
  refine ⟨X.keeps F.keep, ?_⟩
  refine next_K (s := { s with toks := s.toks + 1 }) F X T N U hsc B hm hm1 hdp hun ?_
  intro r i' x' t t1' t2' n' h' tk' a b c d e
  exact h r i' x' t t1' t2' n' h' tk' a b c d e

def strLits : List PySem.Expr → Option (List Str)
  | [] => some []
  | .Constant (.str x) _ _ :: r => (strLits r).map (x :: ·)
  | _ => none
theorem spliced_strs {M : Model} {A : Around} {env : Env} {pos : Pos} : ∀ (elts : List PySem.Expr) (ws : List Str) (s : Shared) (Q : List Value → Shared → Prop), strLits elts = some ws →
    (∀ vs tk, StrsAre vs ws → Q vs { s with toks := tk }) → wpAny M A (spliced (backTo pos (starEach elts env))) Q E s
  | [], ws, s, Q, hl, h => by
    cases hl
    exact spliced_none (h [] s.toks .nil)
  | e :: r, ws, s, Q, hl, h => by
    unfold strLits at hl
    split at hl
    · rename_i heq; cases heq
    · rename_i x k p r' heq
      cases heq
      cases hr : strLits r with
      | none => rw [hr] at hl; cases hl
      | some ws' =>
        rw [hr] at hl
        cases hl
        refine spliced_more (wpAny_Constant_str ?_)
        exact spliced_strs r ws' _ _ hr fun vs tk hv => h (.str x s.toks :: vs) tk (.cons _ _ hv)
    · cases hl

theorem menu_eval {Q : Value → Shared → Prop} {st sc : Addr} {i x many : Int} {t1 t2 : Tok} {n k : Nat} {news' : Obj → List (Addr × Obj)} {p2 p3 p4 p5 p6 p7 : Pos} {elts : List PySem.Expr} {ws : List Str}
    (F : Fr h₀ L s.heap m) (X : (hd.heap_39 w.params).In h₀) (T : Top hd.view_39 (looseW hd.view_39 []) mean mg mb h₀) (N : News h₀ L s.heap news)
    (U : ∀ o', Upd st (listOf #[.ref sc, .int i t1, .int x t2] n) o' news (news' o')) (hsc : Sc h₀ sc) (B : StF i x)
    (hl : strLits elts = some ws) (hm : many = (ws.length : Int)) (hm0 : 0 < ws.length) (hm1 : ws.length < 1000) (hmax : ∀ x ∈ ws, x.length ≤ 16) (hdp : dp + 10 < recursionLimit) (hun : un + 200 < cLine) (hv : m (Str.ofString "state") = some (.ref st))
    (hk : cs.kind = .function) (k1 : (envOf cn cs L ca ccd).kindOf (Str.ofString "_law_next") = some .globalImplicit) (k2 : (envOf cn cs L ca ccd).kindOf (Str.ofString "state") = some .local)
    (h : ∀ x i' x' t t1' t2' n' h' tk', x ∈ ws → x.length ≤ 16 → StF i' x' → Fr h₀ L h' m → News h₀ L h' (news' (listOf #[.ref sc, .int i' t1', .int x' t2'] n')) → Q (.str x t) { s with heap := h', toks := tk' }) :
    wpAny (model prog w) (Ar dp un fr gd) (eval (.Subscript (.List elts p6) (.Call (.Name (Str.ofString "_law_next") p2) [.Name (Str.ofString "state") p3, .Constant (.int many) k p4] [] p5) p7) (envOf cn cs L ca ccd)) Q E s := by
  refine Subscript_ (List_ (spliced_strs elts ws _ _ hl fun vs tk hvs => ?_))
  have hlen := hvs.length
  refine newList_N (s := { s with toks := tk }) F N ?_ (by rw [PySem.sizeLine_eq]; omega)
  intro h' F' N'
  have D := N _ (by obtain ⟨pre, post, e1, _⟩ := (U (listOf #[.ref sc, .int i t1, .int x t2] n)).split; rw [e1]; simp : (st, listOf #[.ref sc, .int i t1, .int x t2] n) ∈ news)
  have hne : s.heap.objs.size ≠ st := Nat.ne_of_gt (Heap.lt_size D.1)
  have hsz : ({ s with toks := tk } : Shared).heap.objs.size = s.heap.objs.size := rfl
  rw [hsz] at N'
  have hsc' : Sc h' sc := hsc.keeps F'.keep
  refine nextcall_eval (s := { s with heap := h', toks := tk }) (news' := fun o => (s.heap.objs.size, { cls := .type "list", data := .seq vs.toArray }) :: news' o) F' X T N' (fun o => Upd.tail hne (U o)) hsc' B (by omega) (by omega) hdp hun hv hk k1 k2 ?_
  intro r i' x' t t1' t2' n' h2 tk' a b c F2 N2
  refine KTb.item_list (s := { s with heap := h2, toks := tk' }) (vs := vs) (ws := ws) ⟨_, (N2 _ (.head _)).1, rfl, 0, rfl⟩ hvs a (by omega) (by omega) (fun t' hlt => ?_)
  have hmm : ws.getD r.toNat Str.empty ∈ ws := by
    rw [List.getD_eq_getElem?_getD, List.getElem?_eq_getElem hlt]
    exact List.getElem_mem hlt
  exact h _ i' x' t' t1' t2' n' h2 tk' hmm (hmax _ hmm) c F2 (fun p hp => N2 p (.tail _ hp))

def intLit : PySem.Expr → Option Int
  | .Constant (.int i) _ _ => some i
  | .UnaryOp .USub (.Constant (.int i) _ _) _ => some (-i)
  | _ => none
def triLit : PySem.Expr → Option (Str × Int × Str)
  | .List [.Constant (.str a) _ _, e, .Constant (.str b) _ _] _ => (intLit e).map fun i => (a, i, b)
  | _ => none
def triLits : List PySem.Expr → Option (List (Str × Int × Str))
  | [] => some []
  | e :: r => match triLit e, triLits r with | some d, some ds => some (d :: ds) | _, _ => none
inductive TriAre (inner : List (Addr × Obj)) : List Value → List (Str × Int × Str) → Prop
  | nil : TriAre inner [] []
  | cons {a : Addr} {x y : Str} {i : Int} {t1 t2 t3 : Tok} {vs : List Value} {ds : List (Str × Int × Str)} : (a, listOf #[.str x t1, .int i t2, .str y t3] 0) ∈ inner → TriAre inner vs ds → TriAre inner (.ref a :: vs) ((x, i, y) :: ds)
theorem TriAre.mono {inner inner' : List (Addr × Obj)} (hs : ∀ p ∈ inner, p ∈ inner') : ∀ {vs : List Value} {ds : List (Str × Int × Str)}, TriAre inner vs ds → TriAre inner' vs ds
  | _, _, .nil => .nil
  | _, _, .cons h r => .cons (hs _ h) (TriAre.mono hs r)
theorem TriAre.length {inner : List (Addr × Obj)} : ∀ {vs : List Value} {ds : List (Str × Int × Str)}, TriAre inner vs ds → vs.length = ds.length
  | _, _, .nil => rfl
  | _, _, .cons _ r => by rw [List.length_cons, List.length_cons, r.length]
theorem TriAre.get {inner : List (Addr × Obj)} : ∀ {vs : List Value} {ds : List (Str × Int × Str)} {k : Nat}, TriAre inner vs ds → k < ds.length →
    ∃ a x i y t1 t2 t3, vs[k]? = some (.ref a) ∧ (x, i, y) ∈ ds ∧ (a, listOf #[.str x t1, .int i t2, .str y t3] 0) ∈ inner
  | _, _, _, .nil, hk => absurd hk (Nat.not_lt_zero _)
  | _, _, 0, .cons h _, _ => ⟨_, _, _, _, _, _, _, rfl, .head _, h⟩
  | _, _, k + 1, .cons _ r, hk => by
    obtain ⟨a, x, i, y, t1, t2, t3, h1, h2, h3⟩ := r.get (Nat.lt_of_succ_lt_succ hk)
    exact ⟨a, x, i, y, t1, t2, t3, h1, .tail _ h2, h3⟩
theorem Upd.app {d : Addr} {o o' : Obj} {l l' : List (Addr × Obj)} : ∀ {inner : List (Addr × Obj)}, (∀ p ∈ inner, p.1 ≠ d) → Upd d o o' l l' → Upd d o o' (inner ++ l) (inner ++ l')
  | [], _, h => h
  | p :: r, hi, h => Upd.tail (hi p (.head _)) (Upd.app (fun q hq => hi q (.tail _ hq)) h)

theorem intLit_eval {A : Around} {env : Env} {e : PySem.Expr} {i : Int} {s : Shared} {Q : Value → Shared → Prop} (hl : intLit e = some i) (h : ∀ t tk, Q (.int i t) { s with toks := tk }) : wpAny (model prog w) A (eval e env) Q E s := by
  unfold intLit at hl
  split at hl
  · cases hl; exact wpAny_Constant_int (h _ _)
  · cases hl; exact UnaryOp_ (wpAny_Constant_int (neg_int (h _ _)))
  · cases hl
theorem triLit_eval {A : Around} {env : Env} {e : PySem.Expr} {d : Str × Int × Str} {Q : Value → Shared → Prop} (hl : triLit e = some d) (F : Fr h₀ L s.heap m) (N : News h₀ L s.heap news)
    (h : ∀ t1 t2 t3 h' tk, Fr h₀ L h' m → News h₀ L h' ((s.heap.objs.size, listOf #[.str d.1 t1, .int d.2.1 t2, .str d.2.2 t3] 0) :: news) → s.heap.objs.size < h'.objs.size → Q (.ref s.heap.objs.size) { s with heap := h', toks := tk }) :
    wpAny (model prog w) A (eval e env) Q E s := by
  unfold triLit at hl
  split at hl
  · rename_i a k1 p1 e2 b k2 p2 p3
    cases hi : intLit e2 with
    | none => rw [hi] at hl; cases hl
    | some i =>
      rw [hi] at hl
      cases hl
      refine List_ (spliced_more (wpAny_Constant_str (spliced_more ?_ ?_)))
      · refine intLit_eval hi fun t tk => ?_
        refine spliced_more (wpAny_Constant_str (spliced_none ?_))
        refine newList_N (s := { s with toks := tk + 1 }) F N ?_ (by rw [PySem.sizeLine_eq]; simp)
        intro h' F' N'
        exact h _ _ _ h' _ F' N' (Heap.lt_size (N' _ (.head _)).1)
      · cases e2 with
        | Starred => cases hi
        | _ => rfl
  · cases hl

theorem spliced_tris {A : Around} {env : Env} {pos : Pos} : ∀ (elts : List PySem.Expr) (ds : List (Str × Int × Str)) (s : Shared) (news : List (Addr × Obj)) (Q : List Value → Shared → Prop), triLits elts = some ds → Fr h₀ L s.heap m → News h₀ L s.heap news →
    (∀ vs inner h' tk, TriAre inner vs ds → Fr h₀ L h' m → News h₀ L h' (inner ++ news) → (∀ p ∈ inner, s.heap.objs.size ≤ p.1) → Q vs { s with heap := h', toks := tk }) → wpAny (model prog w) A (spliced (backTo pos (starEach elts env))) Q E s
  | [], ds, s, news, Q, hl, F, N, h => by
    cases hl
    exact spliced_none (h [] [] s.heap s.toks .nil F N (fun _ hp => nomatch hp))
  | e :: r, ds, s, news, Q, hl, F, N, h => by
    unfold triLits at hl
    split at hl
    · rename_i d ds' h1 h2
      cases hl
      refine spliced_more (triLit_eval h1 F N ?_) ?_
      · intro t1 t2 t3 h' tk F' N' hlt
        refine spliced_tris r ds' { s with heap := h', toks := tk } _ _ h2 F' N' ?_
        intro vs inner h2 tk2 hT F2 N2 hge
        refine h (.ref s.heap.objs.size :: vs) (inner ++ [(s.heap.objs.size, listOf #[.str d.1 t1, .int d.2.1 t2, .str d.2.2 t3] 0)]) h2 tk2 (.cons (List.mem_append_right _ (.head _)) (hT.mono fun p hp => List.mem_append_left _ hp)) F2 (by rw [List.append_assoc]; exact N2) ?_
        intro p hp
        rcases List.mem_append.mp hp with hp | hp
        · have := hge p hp
          dsimp only at this
          exact Nat.le_trans (Nat.le_of_lt hlt) this
        · rw [List.mem_singleton.mp hp]
          exact Nat.le_refl _
      · cases e with
        | Starred => cases h1
        | _ => rfl
    · cases hl

theorem body_eval {Q : Value → Shared → Prop} {st sc : Addr} {i x many : Int} {t1 t2 : Tok} {n k : Nat} {news' : Obj → List (Addr × Obj)} {p2 p3 p4 p5 p6 p7 : Pos} {elts : List PySem.Expr} {ds : List (Str × Int × Str)}
    (F : Fr h₀ L s.heap m) (X : (hd.heap_39 w.params).In h₀) (T : Top hd.view_39 (looseW hd.view_39 []) mean mg mb h₀) (N : News h₀ L s.heap news)
    (U : ∀ o', Upd st (listOf #[.ref sc, .int i t1, .int x t2] n) o' news (news' o')) (hsc : Sc h₀ sc) (B : StF i x)
    (hl : triLits elts = some ds) (hm : many = (ds.length : Int)) (hm0 : 0 < ds.length) (hm1 : ds.length < 1000) (hmax : ∀ d ∈ ds, d.1.length ≤ 20 ∧ d.2.2.length ≤ 4) (hdp : dp + 10 < recursionLimit) (hun : un + 200 < cLine) (hv : m (Str.ofString "state") = some (.ref st))
    (hk : cs.kind = .function) (k1 : (envOf cn cs L ca ccd).kindOf (Str.ofString "_law_next") = some .globalImplicit) (k2 : (envOf cn cs L ca ccd).kindOf (Str.ofString "state") = some .local)
    (h : ∀ a b p nm i' x' t1 t2 t3 t1' t2' n' h' tk', (b, p, nm) ∈ ds → b.length ≤ 20 → nm.length ≤ 4 → StF i' x' → Fr h₀ L h' m → News h₀ L h' ((a, listOf #[.str b t1, .int p t2, .str nm t3] 0) :: news' (listOf #[.ref sc, .int i' t1', .int x' t2'] n')) →
      (∀ q ∈ news, q.1 < a) → Q (.ref a) { s with heap := h', toks := tk' }) :
    wpAny (model prog w) (Ar dp un fr gd) (eval (.Subscript (.List elts p6) (.Call (.Name (Str.ofString "_law_next") p2) [.Name (Str.ofString "state") p3, .Constant (.int many) k p4] [] p5) p7) (envOf cn cs L ca ccd)) Q E s := by
  refine Subscript_ (List_ (spliced_tris elts ds s news _ hl F N fun vs inner h' tk hT F' N' hge => ?_))
  have hlen := hT.length
  refine newList_N (s := { s with heap := h', toks := tk }) F' N' ?_ (by rw [PySem.sizeLine_eq]; omega)
  intro h2 F2 N2
  have D := N _ (by obtain ⟨pre, post, e1, _⟩ := (U (listOf #[.ref sc, .int i t1, .int x t2] n)).split; rw [e1]; simp : (st, listOf #[.ref sc, .int i t1, .int x t2] n) ∈ news)
  have hlt : st < s.heap.objs.size := Heap.lt_size D.1
  have D' := N' _ (List.mem_append_right inner (by obtain ⟨pre, post, e1, _⟩ := (U (listOf #[.ref sc, .int i t1, .int x t2] n)).split; rw [e1]; simp : (st, listOf #[.ref sc, .int i t1, .int x t2] n) ∈ news))
  have hlt' : st < h'.objs.size := Heap.lt_size D'.1
  refine nextcall_eval (s := { s with heap := h2, toks := tk }) (news' := fun o => (h'.objs.size, { cls := .type "list", data := .seq vs.toArray }) :: (inner ++ news' o)) F2 X T N2
    (fun o => Upd.tail (Nat.ne_of_gt hlt') (Upd.app (fun p hp => Nat.ne_of_gt (Nat.lt_of_lt_of_le hlt (hge p hp))) (U o))) (hsc.keeps F2.keep) B (by omega) (by omega) hdp hun hv hk k1 k2 ?_
  intro r i' x' t t1' t2' n' h3 tk' a b c F3 N3
  obtain ⟨a1, y1, j1, y2, u1, u2, u3, e1, e2, e3⟩ := hT.get (k := r.toNat) (by omega)
  have hls : h3.IsList h'.objs.size vs.toArray := ⟨_, (N3 _ (.head _)).1, rfl, 0, rfl⟩
  refine tail_any (s := { s with heap := h3, toks := tk' }) hls.typeIs slot_list_getitem.lookup (wpAny_getItem_list hls a (by omega) (x := .ref a1) (by simpa using e1) ?_) (by with_unfolding_all rfl)
  refine h a1 y1 j1 y2 i' x' u1 u2 u3 t1' t2' n' h3 tk' e2 (hmax _ e2).1 (hmax _ e2).2 c F3 (fun p hp => ?_) (fun q hq => ?_)
  · rcases List.mem_cons.mp hp with rfl | hp
    · exact N3 _ (.tail _ (List.mem_append_left _ e3))
    · exact N3 _ (.tail _ (List.mem_append_right _ hp))
  · exact Nat.lt_of_lt_of_le (Heap.lt_size (N q hq).1) (hge _ e3)
end
end Mine

end
section
open PySem PySem.W PySem.Calls PyProof.Rows
set_option Elab.async false
set_option maxRecDepth 100000
namespace Mine
theorem fill8 : (PySem.Challenge.rw_et5026_01 = PySem.Challenge.rw_et5026_01) ∧ (∀ P, hd.heap_39 P = hd.heap_39 P) := by
  k_fill
  exact ⟨rfl, fun _ => rfl⟩

section
variable {prog : Program} {w : World} {dp un : Nat} {fr : Option (List Env)} {gd : Option (List Code)} {s : Shared} {h₀ : Heap} {mean : ExcName → Option Value} {mg mb : Str → Option Value} {R : Result → Shared → Prop}

theorem upd_mem {d : Addr} {o o' : Obj} {l l' : List (Addr × Obj)} (U : Upd d o o' l l') : (d, o) ∈ l := by
  obtain ⟨pre, post, rfl, rfl, _⟩ := U.split
  simp
theorem upd_keys {d : Addr} {o o' : Obj} {l l' : List (Addr × Obj)} (U : Upd d o o' l l') : l'.map (·.1) = l.map (·.1) := by
  obtain ⟨pre, post, rfl, rfl, _⟩ := U.split
  simp
/-- two objects of the ledger turned, some new ones behind -/
theorem upd_frame2 {h₀ h h' : Heap} {L st du : Addr} {m : Str → Option Value} {news n1 n2 own : List (Addr × Obj)} {o1 o1' o2 o2' : Obj} (F : Fr h₀ L h m) (N : News h₀ L h news) (U1 : Upd st o1 o1' news n1) (U2 : Upd du o2 o2' n1 n2)
    (hk : ∀ b x, b ≠ st → b ≠ du → h.get? b = some x → h'.get? b = some x) (hs : h'.get? st = some o1') (hd : h'.get? du = some o2') (hne : st ≠ du) (ho : ∀ p ∈ own, h'.get? p.1 = some p.2 ∧ h.get? p.1 = none) :
    Fr h₀ L h' m ∧ News h₀ L h' (n2 ++ own) ∧ OwnOff own (news.map (·.1)) := by
  have D1 := N _ (upd_mem U1)
  have hdm : (du, o2) ∈ news := by
    obtain ⟨pre, post, rfl, rfl, a, b⟩ := U1.split
    have := upd_mem U2
    rcases List.mem_append.mp this with q | q
    · exact List.mem_append_left _ q
    · rcases List.mem_cons.mp q with q | q
      · exact absurd (congrArg Prod.fst q).symm hne
      · exact List.mem_append_right _ (.tail _ q)
  have D2 := N _ hdm
  obtain ⟨oL, es, ep, hL, r⟩ := F.ns
  refine ⟨⟨⟨oL, es, ep, hk _ _ (Ne.symm D1.2.1) (Ne.symm D2.2.1) hL, r⟩, fun c x q => hk _ _ (fun z => ?_) (fun z => ?_) (F.keep c x q), F.above⟩, fun p hp => ?_, fun p hp b hb e => ?_⟩
  · have := D1.2.2; rw [← z, q] at this; cases this
  · have := D2.2.2; rw [← z, q] at this; cases this
  · rcases List.mem_append.mp hp with hp | hp
    · have key : p.1 ∈ news.map (·.1) := by
        rw [← upd_keys U1, ← upd_keys U2]
        exact List.mem_map_of_mem hp
      obtain ⟨q, hq, hqp⟩ := List.mem_map.mp key
      have Z := N q hq
      refine ⟨?_, hqp ▸ Z.2.1, hqp ▸ Z.2.2⟩
      obtain ⟨pre, post, e1, e2, a, b⟩ := U2.split
      rw [e2] at hp
      have inN1 : ∀ p', p' ∈ pre ∨ p' ∈ post → h'.get? p'.1 = some p'.2 := by
        intro p' hp'
        have nd : p'.1 ≠ du := hp'.elim (a p') (b p')
        have m1 : p' ∈ n1 := by rw [e1]; exact hp'.elim (fun z => List.mem_append_left _ z) (fun z => List.mem_append_right _ (.tail _ z))
        obtain ⟨pre1, post1, f1, f2, a1, b1⟩ := U1.split
        rw [f2] at m1
        rcases List.mem_append.mp m1 with z | z
        · exact hk _ _ (a1 _ z) nd (N _ (by rw [f1]; exact List.mem_append_left _ z)).1
        · rcases List.mem_cons.mp z with z | z
          · rw [z]; exact hs
          · exact hk _ _ (b1 _ z) nd (N _ (by rw [f1]; exact List.mem_append_right _ (.tail _ z))).1
      rcases List.mem_append.mp hp with z | z
      · exact inN1 p (.inl z)
      · rcases List.mem_cons.mp z with z | z
        · rw [z]; exact hd
        · exact inN1 p (.inr z)
    · have z := ho p hp
      refine ⟨z.1, fun e => ?_, ?_⟩
      · rw [e] at z; rw [hL] at z; cases z.2
      · cases e : h₀.get? p.1 with
        | none => rfl
        | some o => have := F.keep _ _ e; rw [z.2] at this; cases this
  · obtain ⟨q, hq, rfl⟩ := List.mem_map.mp hb
    have z := ho p hp
    have := (N q hq).1
    rw [← e, z.2] at this; cases this

theorem params_K {E : Value → Shared → Prop} {L : Addr} {m : Str → Option Value} {news : List (Addr × Obj)} {Q : Value → Shared → Prop} {st sc due : Addr} {i x : Int} {t1 t2 tt : Tok} {n nd : Nat} {its : Array Value} {text : Str} {b1 b2 : Bool} {n1 : Obj → List (Addr × Obj)} {n2 : Obj → Obj → List (Addr × Obj)}
    (F : Fr h₀ L s.heap m) (X : (hd.heap_39 w.params).In h₀) (T : Top hd.view_39 (looseW hd.view_39 []) mean mg mb h₀) (N : News h₀ L s.heap news)
    (U1 : ∀ o', Upd st (listOf #[.ref sc, .int i t1, .int x t2] n) o' news (n1 o')) (U2 : ∀ o' o'', Upd due (listOf its nd) o'' (n1 o') (n2 o' o'')) (hne : @Ne Nat due st) (hsc : Sc h₀ sc) (B : StF i x)
    (hdp : dp + 30 < recursionLimit) (hun : un + 280 < cLine) (hlen : text.length ≤ 40) (hus : its.size ≤ 8)
    (h : ∀ (k : Nat) (t : Str) (ds : List Dat) (t' : Tok) (i' x' : Int) (t1' t2' : Tok) (n' nd' : Nat) (ws : List Value) (own : List (Addr × Obj)) (h' : Heap) (tk' : Nat), 1 ≤ k → k ≤ 5 → PRun b1 b2 text k t ds → DatAll own ws ds → StF i' x' →
      Fr h₀ L h' m → News h₀ L h' (n2 (listOf #[.ref sc, .int i' t1', .int x' t2'] n') (listOf (its ++ ws.toArray) nd') ++ own) → OwnOff own (news.map (·.1)) → t.length ≤ 400 → ws.length ≤ 5 → Q (.str t t') { s with heap := h', toks := tk' }) :
    wpAny (model prog w) (Ar dp un fr gd) (call (.ref 42) [.ref st, .str text tt, .ref due, .bool b1, .bool b2]) Q E s := by
  refine wpAny_call ?_
  have D1 := N _ (upd_mem (U1 (listOf #[.ref sc, .int i t1, .int x t2] n)))
  have hdm : (due, listOf its nd) ∈ news := by
    obtain ⟨pre, post, e1, e2, a, b⟩ := (U1 (listOf #[.ref sc, .int i t1, .int x t2] n)).split
    have := upd_mem (U2 (listOf #[.ref sc, .int i t1, .int x t2] n) (listOf its nd))
    rw [e2] at this
    rw [e1]
    exact this
  have D2 := N _ hdm
  refine params_code (h₀ := h₀) (us := its.toList) F.keep X T hdp hun D1.1 D1.2.2 (by rw [Array.toArray_toList]; exact D2.1) D2.2.2 hne hsc B hlen (by rw [Array.length_toList]; exact hus) ?_
  intro k t ds t' i' x' t1' t2' n' nd' ws own h' tk' h1 h2 hP hD hS hkeep hs hd ho
  have e : its ++ ws.toArray = (its.toList ++ ws).toArray := by simp
  rw [← e] at hd
  obtain ⟨F', N', hoff⟩ := upd_frame2 F N (U1 _) (U2 _ _) hkeep hs hd (Ne.symm hne) ho
  exact h k t ds t' i' x' t1' t2' n' nd' ws own h' tk' h1 h2 hP hD hS F' N' hoff (by have := hP.len; omega) (by have := hP.len; have := hD.length; omega)
end
end Mine

end
section
open PySem PySem.W PySem.Calls PyProof.Rows
set_option Elab.async false
set_option maxRecDepth 100000
namespace Mine
theorem fill9 : (PySem.Challenge.rw_et5026_01 = PySem.Challenge.rw_et5026_01) ∧ (∀ P, hd.heap_39 P = hd.heap_39 P) := by
  k_fill
  exact ⟨rfl, fun _ => rfl⟩

local macro_rules | `(tactic| walk_at "call ref") => `(tactic| (k_here; (with_reducible show wpAny _ _ (call (Value.ref 28) _) _ _ _); k_dflt (refine' next_K ?F ?X ?T ?N ?U ?sc ?B ?m0 ?m1 ?dp ?un ?_; (case F => k_asm); (case X => k_asm); (case T => k_asm); (case N => k_asm); (case U => intro o'; k_upd); (case sc => first | assumption | exact Sc.keeps (Fr.keep (by k_asm)) (by assumption)); (case B => assumption); (case m0 => decide); (case m1 => decide); (case dp => (try dsimp only [Around.deeper, Ar]); omega); (case un => (try dsimp only [Around.deeper, Ar]); omega)); intro r' i' x' t' t1' t2' n' h' tk' h0' h1' B' F' N'; (try k_sweep)))
local macro_rules | `(tactic| walk_at "call ref") => `(tactic| (k_here; (with_reducible show wpAny _ _ (call (Value.ref 42) _) _ _ _); k_dflt (refine' params_K ?F ?X ?T ?N ?U1 ?U2 ?ne ?sc ?B ?dp ?un ?le ?us ?_; (case F => k_asm); (case X => k_asm); (case T => k_asm); (case N => k_asm); (case U1 => intro o'; k_upd); (case U2 => intro o' o''; k_upd); (case ne => (refine neN ?_; omega)); (case sc => assumption); (case B => assumption); (case dp => (try dsimp only [Around.deeper, Ar]); omega); (case un => (try dsimp only [Around.deeper, Ar]); omega); (case le => first | ((simp only [Str.length_append]); omega) | decide +kernel); (case us => first | decide | (simp only [List.size_toArray, Array.size_push]; decide))); intro k' t' ds' tt' i' x' t1' t2' n' nd' ws' own' h' tk' k0' k1' hP' hD' B' F' N' hO' hT' hW'; (try k_sweep); (try simp only [List.map_cons, List.map_nil] at hO'); (try simp only [List.cons_append, List.nil_append] at N')))
local macro_rules | `(tactic| size_fits) => `(tactic| ((simp only [Str.length_append, List.size_toArray, Array.size_push, Array.size_append, List.length_cons, List.length_nil, PySem.sizeLine_eq]); omega))
local macro_rules | `(tactic| walk_at "call builtin:list.append") => `(tactic| (k_here; k_dflt (refine' append_K ?k1 ?k2 ?k3 ?_ ?z; (case k1 => k_asm); (case k2 => k_asm); (case k3 => k_upd); (case z => size_fits); k_whole); intro h' F' N'; (try k_sweep)))
local macro_rules | `(tactic| walk_at "eval Subscript") => `(tactic| (k_here; (with_reducible show wpAny _ _ (eval (Expr.Subscript (Expr.List _ _) (Expr.Call (Expr.Name (Str.ofString "_law_next") _) _ _ _) _) _) _ _ _); k_dflt (refine' menu_eval ?F ?X ?T ?N ?U ?sc ?B ?l ?m ?m0 ?m1 ?mx ?dp ?un ?v ?k ?k1 ?k2 ?_; (case F => k_asm); (case X => k_asm); (case T => k_asm); (case N => k_asm); (case v => exact rfl); (case U => intro o'; k_upd); (case sc => assumption); (case B => assumption); (case l => ((dsimp only [strLits, Option.map]); try exact rfl)); (case m => exact rfl); (case m0 => decide); (case m1 => decide); (case mx => decide +kernel); (case dp => (try dsimp only [Around.deeper, Ar]); omega); (case un => (try dsimp only [Around.deeper, Ar]); omega); (case k => exact rfl); (case k1 => exact rfl); (case k2 => exact rfl)); intro mX' i' x' mT' t1' t2' n' h' tk' mH' mL' B' F' N'; (try k_sweep)))
local macro_rules | `(tactic| walk_at "eval Subscript") => `(tactic| (k_here; (with_reducible show wpAny _ _ (eval (Expr.Subscript (Expr.List (Expr.List _ _ :: _) _) (Expr.Call (Expr.Name (Str.ofString "_law_next") _) _ _ _) _) _) _ _ _); k_dflt (refine' body_eval ?F ?X ?T ?N ?U ?sc ?B ?l ?m ?m0 ?m1 ?mx ?dp ?un ?v ?k ?k1 ?k2 ?_; (case F => k_asm); (case X => k_asm); (case T => k_asm); (case N => k_asm); (case v => exact rfl); (case U => intro o'; k_upd); (case sc => assumption); (case B => assumption); (case l => ((dsimp only [triLits, triLit, intLit, Option.map]); try exact rfl)); (case m => exact rfl); (case m0 => decide); (case m1 => decide); (case mx => decide +kernel); (case dp => (try dsimp only [Around.deeper, Ar]); omega); (case un => (try dsimp only [Around.deeper, Ar]); omega); (case k => exact rfl); (case k1 => exact rfl); (case k2 => exact rfl)); intro bA' bX' bP' bY' i' x' u1' u2' u3' t1' t2' n' h' tk' mH' mL' mL2' B' F' N' l1'; (try k_lt l1'); (try k_sweep)))

theorem mem_f {news : List (Addr × Obj)} {st : Addr} {p : Addr × Obj} (h : p ∈ news) (hn : @Ne Nat p.1 st) : p ∈ news.filter (fun q => decide (@Ne Nat q.1 st)) := List.mem_filter.mpr ⟨h, decide_eq_true hn⟩
theorem dueF_hard {k : Int} {x : Str} (h : x ∈ hardT) : dueF k x = [place k (e743 x)] := if_pos h
theorem dueF_soft {k : Int} {x : Str} (h : x ∉ hardT) : dueF k x = [] := if_neg h
theorem dueB_yes {k p : Int} {x : Str} (h : 0 ≤ p) : dueB k p x = [place (k + p) (e741 x)] := if_pos h
theorem dueB_no {k p : Int} {x : Str} (h : ¬ 0 ≤ p) : dueB k p x = [] := if_neg h

section
variable {prog : Program} {w : World} {dp un : Nat} {fr : Option (List Env)} {gd : Option (List Code)} {s : Shared} {h₀ : Heap} {mean : ExcName → Option Value} {mg mb : Str → Option Value} {R : Result → Shared → Prop}
set_option maxHeartbeats 1500000 in
theorem row_code {st sc : Addr} {i x : Int} {t1 t2 : Tok} {n : Nat}
    (hk : h₀.StaysIn s.heap) (X : (hd.heap_39 w.params).In h₀) (T : Top hd.view_39 (looseW hd.view_39 []) mean mg mb h₀) (hdp : dp + 50 < recursionLimit) (hun : un + 350 < cLine)
    (hst : s.heap.get? st = some (listOf #[.ref sc, .int i t1, .int x t2] n)) (hst0 : h₀.get? st = none) (hsc : Sc h₀ sc) (B : StF i x)
    (hret : ∀ (tx : Str) (ds : List Dat) (t' : Tok) (q dl : Addr) (i' x' : Int) (t1' t2' : Tok) (n' nd : Nat) (ws : List Value) (own : List (Addr × Obj)) (h' : Heap) (tk' : Nat), RowS tx ds →
      (q, ({ cls := .type "tuple", data := .seq #[.str tx t', .ref dl] } : Obj)) ∈ own → (dl, listOf ws.toArray nd) ∈ own → DatAll own ws ds → StF i' x' →
      (∀ b o, b ≠ st → s.heap.get? b = some o → h'.get? b = some o) → h'.get? st = some (listOf #[.ref sc, .int i' t1', .int x' t2'] n') → (∀ p ∈ own, h'.get? p.1 = some p.2 ∧ s.heap.get? p.1 = none) →
      R (.ok (.ret (.ref q))) { s with heap := h', toks := tk' }) :
    codeAny (model prog w) (Ar dp un fr gd) (.call (.ref 49) ⟨[.ref st], []⟩) R s := by
  refine enterN (K := hd.heap_39 w.params) (binds := [(Str.ofString "state", .ref st)]) (news := [(st, listOf #[.ref sc, .int i t1, .int x t2] n)]) hk X T (by intro q hq; rw [List.mem_singleton.mp hq]; exact ⟨hst, hst0⟩) (by k_is) (by k_is) (by show dp < recursionLimit; omega) (BindsTo.of_eq rfl) (locs rfl) ?_ rfl rfl rfl (by decide)
  intro g L' h₁ hg hL F N X' T'
  have hget : ∀ b o, b ≠ st → s.heap.get? b = some o → g.get? b = some o := fun b o h1 e => by
    rw [hg]
    exact hideAll_get _ e (by simpa using h1)
  have hscg : Sc g sc := by
    refine Sc.keeps (fun b o e => ?_) hsc
    refine hget b o ?_ (hk b o e)
    rintro rfl; rw [hst0] at e; cases e
  have hl1 : (Str.ofString "(").length = 1 := by decide +kernel
  have fin : ∀ (tx : Str) (ds : List Dat) (t' : Tok) (q dl : Addr) (i' x' : Int) (t1' t2' : Tok) (n' nd : Nat) (ws : List Value) (news : List (Addr × Obj)) (m' : Str → Option Value) (h' : Heap) (tk' : Nat), Fr g L' h' m' → News g L' h' news →
      (st, listOf #[.ref sc, .int i' t1', .int x' t2'] n') ∈ news → (q, ({ cls := .type "tuple", data := .seq #[.str tx t', .ref dl] } : Obj)) ∈ news → @Ne Nat q st → (dl, listOf ws.toArray nd) ∈ news → @Ne Nat dl st →
      StF i' x' → RowS tx ds → DatAll (news.filter (fun q => decide (@Ne Nat q.1 st))) ws ds → R (.ok (.ret (.ref q))) { s with heap := h', toks := tk' } := by
    intro tx ds t' q dl i' x' t1' t2' n' nd ws news m' h' tk' F2 N2 e1 e2 n2 e3 n3 hS hR hD
    refine hret tx ds t' q dl i' x' t1' t2' n' nd ws _ h' tk' hR (mem_f e2 n2) (mem_f e3 n3) hD hS (fun b o hb e => F2.keep b o (hget b o hb e)) (N2 _ e1).1 (fun p hp => ?_)
    obtain ⟨hp1, hp2⟩ := List.mem_filter.mp hp
    have z := N2 p hp1
    refine ⟨z.1, ?_⟩
    cases e : s.heap.get? p.1 with
    | none => rfl
    | some o =>
      have := hget p.1 o (of_decide_eq_true hp2) e
      rw [z.2.2] at this; cases this
  clear hsc hk X T hst hst0 hg
  have kMark := kdMark
  w_on
  generalize s.toks + _ = tk0
  try k_fold
  w_strict k_steps
  all_goals dsimp only
  all_goals (rename Fr _ _ _ _ => F'; rename News _ _ _ _ => N'; rename StF _ _ => B')
  all_goals clear X' T' hret hget
  all_goals (try simp only [List.push_toArray, List.append_toArray, List.nil_append] at N')
  · (rename _ ∈ [Str.ofString "def ", Str.ofString "async def "] => hpre); (rename _ ∈ [Str.ofString "f", Str.ofString "l", Str.ofString "O", Str.ofString "I", Str.ofString "g"] => hname); (rename _ ∈ [Str.ofString "", Str.ofString " -> int", Str.ofString " -> l"] => hrt); (rename (_, _, _) ∈ _ => hbd); (rename List.any _ _ = _ => hH); (rename PRun _ _ _ _ _ _ => hP); (rename DatAll _ _ _ => hDs); (rename OwnOff _ _ => hOff); (rename 1 ≤ _ => hk1)
    have hh := any_hard.mp hH
    (rename 0 ≤ (_ : Int) => hp0)
    have q := RowS.dfn hpre hname hP ⟨hk1, by omega⟩ hrt hbd
    rw [dueF_hard hh, dueB_yes hp0] at q
    simp only [defTail, Str.length_append] at q
    exact fin _ _ _ _ _ _ _ _ _ _ _ _ _ _ _ _ F' N' (.tail _ (.tail _ (.tail _ (.tail _ (.tail _ (.tail _ (.tail _ (.tail _ (.head _))))))))) (.head _) (by omega) (.tail _ (.tail _ (.tail _ (.tail _ (.tail _ (.tail _ (.head _))))))) (by omega) B' q (DatAll.append (DatAll.append (DatAll.one (dat_place (mem_f (.tail _ (.tail _ (.tail _ (.tail _ (.head _))))) (by dsimp only; omega)) (mem_f (.tail _ (.tail _ (.tail _ (.tail _ (.tail _ (.head _)))))) (by dsimp only; omega)))) (DatAll.mono (fun p hp => mem_f (.tail _ (.tail _ (.tail _ (.tail _ (.tail _ (.tail _ (.tail _ (.tail _ (.tail _ hp))))))))) (hOff p hp _ (by k_memK))) hDs)) (DatAll.one (dat_place (mem_f (.tail _ (.head _)) (by dsimp only; omega)) (mem_f (.tail _ (.tail _ (.head _))) (by dsimp only; omega)))))
  · (rename _ ∈ [Str.ofString "def ", Str.ofString "async def "] => hpre); (rename _ ∈ [Str.ofString "f", Str.ofString "l", Str.ofString "O", Str.ofString "I", Str.ofString "g"] => hname); (rename _ ∈ [Str.ofString "", Str.ofString " -> int", Str.ofString " -> l"] => hrt); (rename (_, _, _) ∈ _ => hbd); (rename List.any _ _ = _ => hH); (rename PRun _ _ _ _ _ _ => hP); (rename DatAll _ _ _ => hDs); (rename OwnOff _ _ => hOff); (rename 1 ≤ _ => hk1)
    have hh := any_hard.mp hH
    (rename ¬ 0 ≤ (_ : Int) => hp0)
    have q := RowS.dfn hpre hname hP ⟨hk1, by omega⟩ hrt hbd
    rw [dueF_hard hh, dueB_no hp0] at q
    rw [List.append_nil] at q
    exact fin _ _ _ _ _ _ _ _ _ _ _ _ _ _ _ _ F' N' (.tail _ (.tail _ (.tail _ (.tail _ (.tail _ (.tail _ (.head _))))))) (.head _) (by omega) (.tail _ (.tail _ (.tail _ (.tail _ (.head _))))) (by omega) B' q (DatAll.append (DatAll.one (dat_place (mem_f (.tail _ (.tail _ (.head _))) (by dsimp only; omega)) (mem_f (.tail _ (.tail _ (.tail _ (.head _)))) (by dsimp only; omega)))) (DatAll.mono (fun p hp => mem_f (.tail _ (.tail _ (.tail _ (.tail _ (.tail _ (.tail _ (.tail _ hp))))))) (hOff p hp _ (by k_memK))) hDs))
  · (rename _ ∈ [Str.ofString "def ", Str.ofString "async def "] => hpre); (rename _ ∈ [Str.ofString "f", Str.ofString "l", Str.ofString "O", Str.ofString "I", Str.ofString "g"] => hname); (rename _ ∈ [Str.ofString "", Str.ofString " -> int", Str.ofString " -> l"] => hrt); (rename (_, _, _) ∈ _ => hbd); (rename List.any _ _ = _ => hH); (rename PRun _ _ _ _ _ _ => hP); (rename DatAll _ _ _ => hDs); (rename OwnOff _ _ => hOff); (rename 1 ≤ _ => hk1)
    have hh := any_soft hH
    (rename 0 ≤ (_ : Int) => hp0)
    have q := RowS.dfn hpre hname hP ⟨hk1, by omega⟩ hrt hbd
    rw [dueF_soft hh, dueB_yes hp0] at q
    rw [List.nil_append] at q
    simp only [defTail, Str.length_append] at q
    exact fin _ _ _ _ _ _ _ _ _ _ _ _ _ _ _ _ F' N' (.tail _ (.tail _ (.tail _ (.tail _ (.tail _ (.tail _ (.head _))))))) (.head _) (by omega) (.tail _ (.tail _ (.tail _ (.tail _ (.head _))))) (by omega) B' q (DatAll.append (DatAll.mono (fun p hp => mem_f (.tail _ (.tail _ (.tail _ (.tail _ (.tail _ (.tail _ (.tail _ hp))))))) (hOff p hp _ (by k_memK))) hDs) (DatAll.one (dat_place (mem_f (.tail _ (.head _)) (by dsimp only; omega)) (mem_f (.tail _ (.tail _ (.head _))) (by dsimp only; omega)))))
  · (rename _ ∈ [Str.ofString "def ", Str.ofString "async def "] => hpre); (rename _ ∈ [Str.ofString "f", Str.ofString "l", Str.ofString "O", Str.ofString "I", Str.ofString "g"] => hname); (rename _ ∈ [Str.ofString "", Str.ofString " -> int", Str.ofString " -> l"] => hrt); (rename (_, _, _) ∈ _ => hbd); (rename List.any _ _ = _ => hH); (rename PRun _ _ _ _ _ _ => hP); (rename DatAll _ _ _ => hDs); (rename OwnOff _ _ => hOff); (rename 1 ≤ _ => hk1)
    have hh := any_soft hH
    (rename ¬ 0 ≤ (_ : Int) => hp0)
    have q := RowS.dfn hpre hname hP ⟨hk1, by omega⟩ hrt hbd
    rw [dueF_soft hh, dueB_no hp0] at q
    rw [List.append_nil] at q
    rw [List.nil_append] at q
    exact fin _ _ _ _ _ _ _ _ _ _ _ _ _ _ _ _ F' N' (.tail _ (.tail _ (.tail _ (.tail _ (.head _))))) (.head _) (by omega) (.tail _ (.tail _ (.head _))) (by omega) B' q (DatAll.mono (fun p hp => mem_f (.tail _ (.tail _ (.tail _ (.tail _ (.tail _ hp))))) (hOff p hp _ (by k_memK))) hDs)
  · (rename _ ∈ [Str.ofString "0", Str.ofString "l", Str.ofString "a + O"] => hx)
    exact fin _ _ _ _ _ _ _ _ _ _ _ [] _ _ _ _ F' N' (.tail _ (.tail _ (.tail _ (.head _)))) (.head _) (by omega) (.tail _ (.head _)) (by omega) B' (RowS.lam0 hx) .nil
  · (rename _ ∈ [Str.ofString "0", Str.ofString "l", Str.ofString "a + O"] => hx); (rename PRun _ _ _ _ _ _ => hP); (rename DatAll _ _ _ => hDs); (rename OwnOff _ _ => hOff); (rename 1 ≤ _ => hk1)
    exact fin _ _ _ _ _ _ _ _ _ _ _ _ _ _ _ _ F' N' (.tail _ (.tail _ (.tail _ (.head _)))) (.head _) (by omega) (.tail _ (.head _)) (by omega) B' (RowS.lam hP ⟨hk1, by omega⟩ hx) (DatAll.mono (fun p hp => mem_f (.tail _ (.tail _ (.tail _ (.tail _ hp)))) (hOff p hp _ (by k_memK))) hDs)
  · (rename _ ∈ [Str.ofString "0", Str.ofString "l", Str.ofString "a + O"] => hx); (rename _ ∈ [Str.ofString ")", Str.ofString ", l)", Str.ofString ", O=1)"] => hy); (rename PRun _ _ _ _ _ _ => hP); (rename DatAll _ _ _ => hDs); (rename OwnOff _ _ => hOff); (rename 1 ≤ _ => hk1)
    exact fin _ _ _ _ _ _ _ _ _ _ _ _ _ _ _ _ F' N' (.tail _ (.tail _ (.tail _ (.head _)))) (.head _) (by omega) (.tail _ (.head _)) (by omega) B' (RowS.call hP ⟨hk1, by omega⟩ hx hy) (DatAll.mono (fun p hp => mem_f (.tail _ (.tail _ (.tail _ (.tail _ hp)))) (hOff p hp _ (by k_memK))) hDs)
  · (rename _ ∈ [Str.ofString "g(l, O)", Str.ofString "g(l=1)", Str.ofString "a = [l, O]", Str.ofString "l.x = 1", Str.ofString "x = l + I"] => hx)
    exact fin _ _ _ _ _ _ _ _ _ _ _ [] _ _ _ _ F' N' (.tail _ (.tail _ (.tail _ (.head _)))) (.head _) (by omega) (.tail _ (.head _)) (by omega) B' (RowS.plain hx) .nil
end
end Mine

end
section
open PySem PySem.W PySem.Calls PyProof.Rows
set_option Elab.async false
set_option maxRecDepth 100000
namespace Mine
/-- nothing of tx is found in hay -/
def occs (hay tx : Str) : Bool := (Builtin.Str.occurrences hay tx 0 hay.length 1).isEmpty
def opT : Str := Str.ofString "([{"
def clT : Str := Str.ofString ")]}"
def nxT : Str := Str.ofString ":,=)"
def asT : List Str := [Str.ofString "as", Str.ofString "for", Str.ofString "global", Str.ofString "nonlocal"]
def dlT : List Str := [Str.ofString "def", Str.ofString "lambda"]
def plT : List Str := [Str.ofString "lambda", Str.ofString ",", Str.ofString "*", Str.ofString "**", Str.ofString "("]
def e742 (x : Str) : Str := (Str.ofString "E742 ambiguous class definition '" ++ x) ++ Str.ofString "'"

/-- what is known between two turns -/
structure SX (α : Type) where
  pt : Str
  pv : α
  fd : Option Int
  sc : Bool
  bd : Int
section
variable {α : Type} (v : SX α) (tx : Str) (sv : α) (nx : Option Str)
def fd2 : Option Int := if v.pt ∈ dlT then some v.bd else v.fd
def sc2 : Bool := if v.pt ∈ dlT then false else if v.fd = some v.bd ∧ tx = Str.ofString ":" then true else v.sc
def bd3 : Int := if occs opT tx = true then (if occs clT tx = true then v.bd else v.bd - 1) else v.bd + 1
def id4 : Option (Str × α) := if (tx = Str.ofString ":=" ∨ (tx = Str.ofString "=" ∧ bd3 v tx = 0)) ∧ v.pt ∈ hardT then some (v.pt, v.pv) else none
def id5 : Option (Str × α) := if v.pt ∈ asT ∧ tx ∈ hardT then some (tx, sv) else id4 v tx
def id6 : Option (Str × α) := if fd2 v ≠ none ∧ sc2 v tx = false ∧ (∃ n, nx = some n ∧ occs nxT n = false) ∧ v.pt ∈ plT ∧ tx ∈ hardT then some (tx, sv) else id5 v tx sv
def tellC : List (α × Str) := if v.pt = Str.ofString "class" ∧ tx ∈ hardT then [(sv, e742 tx)] else []
def tellD : List (α × Str) := if v.pt = Str.ofString "def" ∧ tx ∈ hardT then [(sv, e743 tx)] else []
def tellI : List (α × Str) := match id6 v tx sv nx with | none => [] | some (x, p) => [(p, e741 x)]
def next : SX α := ⟨tx, sv, fd2 v, sc2 v tx, bd3 v tx⟩
end
def tells {α : Type} (v : SX α) (tx : Str) (sv : α) (nx : Option Str) : List (α × Str) := tellC v tx sv ++ (tellD v tx sv ++ tellI v tx sv nx)
def scan {α : Type} (v : SX α) : List (Str × α) → List (α × Str)
  | [] => []
  | t :: r => tells v t.1 t.2 (r.head?.map (·.1)) ++ scan (next v t.1 t.2) r
def start {α : Type} (t : Str × α) : SX α := ⟨t.1, t.2, none, false, 0⟩
def scanAll {α : Type} : List (Str × α) → List (α × Str)
  | [] => []
  | t :: r => scan (start t) r

def SX.map {α β : Type} (f : α → β) (v : SX α) : SX β := ⟨v.pt, f v.pv, v.fd, v.sc, v.bd⟩
def mp {α β : Type} (f : α → β) (l : List (α × Str)) : List (β × Str) := l.map fun p => (f p.1, p.2)
def mq {α β : Type} (f : α → β) (l : List (Str × α)) : List (Str × β) := l.map fun p => (p.1, f p.2)
theorem id6_map {α β : Type} (f : α → β) (v : SX α) (tx : Str) (sv : α) (nx : Option Str) : id6 (v.map f) tx (f sv) nx = (id6 v tx sv nx).map fun p => (p.1, f p.2) := by
  have h4 : id4 (v.map f) tx = (id4 v tx).map fun p => (p.1, f p.2) := by
    have hb : bd3 (v.map f) tx = bd3 v tx := rfl
    have hpt : (v.map f).pt = v.pt := rfl
    unfold id4
    rw [hb, hpt]
    by_cases c : (tx = Str.ofString ":=" ∨ (tx = Str.ofString "=" ∧ bd3 v tx = 0)) ∧ v.pt ∈ hardT
    · rw [if_pos c, if_pos c]; rfl
    · rw [if_neg c, if_neg c]; rfl
  have h5 : id5 (v.map f) tx (f sv) = (id5 v tx sv).map fun p => (p.1, f p.2) := by
    unfold id5; rw [h4]; unfold SX.map; dsimp only; split <;> rfl
  have hfd : fd2 (v.map f) = fd2 v := rfl
  have hsc : sc2 (v.map f) tx = sc2 v tx := rfl
  have hpt : (v.map f).pt = v.pt := rfl
  unfold id6
  rw [h5, hfd, hsc, hpt]
  by_cases c : fd2 v ≠ none ∧ sc2 v tx = false ∧ (∃ n, nx = some n ∧ occs nxT n = false) ∧ v.pt ∈ plT ∧ tx ∈ hardT
  · rw [if_pos c, if_pos c]; rfl
  · rw [if_neg c, if_neg c]
/-- what is told is a hard name -/
theorem id6_hard {α : Type} {v : SX α} {tx : Str} {sv : α} {nx : Option Str} {x : Str} {p : α} (h : id6 v tx sv nx = some (x, p)) : x ∈ hardT := by
  unfold id6 at h
  split at h
  · rename_i c; cases h; exact c.2.2.2.2
  · unfold id5 at h
    split at h
    · rename_i c; cases h; exact c.2
    · unfold id4 at h
      split at h
      · rename_i c; cases h; exact c.2
      · cases h
theorem tells_map {α β : Type} (f : α → β) (v : SX α) (tx : Str) (sv : α) (nx : Option Str) : tells (v.map f) tx (f sv) nx = mp f (tells v tx sv nx) := by
  have hc : tellC (v.map f) tx (f sv) = mp f (tellC v tx sv) := by
    unfold tellC mp SX.map; dsimp only; split <;> rfl
  have hd : tellD (v.map f) tx (f sv) = mp f (tellD v tx sv) := by
    unfold tellD mp SX.map; dsimp only; split <;> rfl
  have h6 := id6_map f v tx sv nx
  have hi : tellI (v.map f) tx (f sv) nx = mp f (tellI v tx sv nx) := by
    unfold tellI
    rw [h6]
    cases id6 v tx sv nx <;> rfl
  unfold tells
  rw [hc, hd, hi]
  simp only [mp, List.map_append]
theorem scan_map {α β : Type} (f : α → β) : ∀ (l : List (Str × α)) (v : SX α), scan (v.map f) (mq f l) = mp f (scan v l)
  | [], _ => rfl
  | t :: r, v => by
    show tells (v.map f) t.1 (f t.2) ((mq f r).head?.map (·.1)) ++ scan ((next v t.1 t.2).map f) (mq f r) = _
    rw [scan_map f r, show (mq f r).head?.map (·.1) = r.head?.map (·.1) by cases r <;> rfl, tells_map]
    simp only [mp, scan, List.map_append]
theorem scanAll_map {α β : Type} (f : α → β) (l : List (Str × α)) : scanAll (mq f l) = mp f (scanAll l) := by
  cases l with
  | nil => rfl
  | cons t r => exact scan_map f r (start t)
/-- what is told of a text -/
def toldOf (tx : Str) : List Dat := (scanAll ((toksOf tx).map fun t => (t.text, t.b))).map fun p => place p.1 p.2
end Mine

end
section
open PySem PySem.W PySem.Calls PyProof.Rows
set_option Elab.async false
set_option maxRecDepth 100000
namespace Mine
section
variable {M : Model} {A : Around} {R : GenEnd} {Y : Protocol} {n : Nat} {s₀ : Shared} {c : Code} {fs : List Frame} {s : Shared} {env : Env}
  {K : Flow → Sem Fin} {H : Value → Sem Fin} {gd : Bool → Bool} {lv : List Value → List Value}
theorem seg_If {test : Expr} {body orelse : List Stmt} {pos : Pos}
    (h : wpAny M (A.over c fs) (isTrue test env (eval test env)) (fun b s' => if b = true then Seg M A R Y n s₀ c ((execs body env).wrap K H gd lv) fs s' else Seg M A R Y n s₀ c ((execs orelse env).wrap K H gd lv) fs s')
      (fun _ _ => False) s) :
    Seg M A R Y n s₀ c ((exec (.If test body orelse pos) env).wrap K H gd lv) fs s := by
  rw [exec_If]
  refine seg_bind_wrap (wpAny_standAt ?_)
  refine seg_bind_wrap (wpAny_mono h (fun b s' hb => ?_) fun _ _ x => x.elim)
  cases b with
  | true => rw [if_pos rfl] at hb ⊢; exact hb
  | false => rw [if_neg Bool.false_ne_true] at hb ⊢; exact hb

theorem execs_app (xs ys : List Stmt) : execs (xs ++ ys) env = (execs xs env >>= fun f => match f with | .next => execs ys env | f => pure f) := by
  induction xs with
  | nil => rfl
  | cons x xs ih =>
    rw [List.cons_append, execs_cons, execs_cons, Sem.bind_eq_wrap', Sem.bind_eq_wrap', Sem.bind_eq_wrap', Sem.wrap_wrap]
    refine Sem.wrap_congr _ _ _ (fun f => ?_) (fun _ => rfl)
    cases f with
    | next => rw [ih, Sem.bind_eq_wrap']
    | _ => rfl
theorem seg_app {xs ys : List Stmt} (h : wpAny M (A.over c fs) (execs xs env) (fun f s' => f = .next ∧ Seg M A R Y n s₀ c ((execs ys env).wrap K H gd lv) fs s') (fun _ _ => False) s) :
    Seg M A R Y n s₀ c ((execs (xs ++ ys) env).wrap K H gd lv) fs s := by
  rw [execs_app]
  refine seg_bind_wrap (wpAny_mono h (fun f s' hf => ?_) fun _ _ x => x.elim)
  obtain ⟨rfl, hf⟩ := hf
  exact hf

theorem seg_For {target iter : Expr} {body orelse : List Stmt} {pos : Pos}
    (h : wpAny M (A.over c fs) (eval iter env) (fun x s₁ => wpAny M (A.over c fs) (pyIter x) (fun it s₂ => ∀ p, Seg M A R Y n s₀ (.forLoop target it body orelse env) (M.den (.forLoop target it body orelse env))
      (.ret (fun r => ((match r with | .ok f => (.pure f : Sem Flow) | .error e => .raise e).onRaise fun (x : Value) => do
        if (← field x 1) == Value.none then unsupported "frame.own-activation:exception-without-traceback"
        setFlight x env.frame).wrap K H gd lv) none (gd false) (lv []) c p [] :: fs) s₂) (fun _ _ => False) s₁) (fun _ _ => False) s)
    (hs : ∀ x, foldedSetIterable iter env x = pure x := by intro _; rfl) :
    Seg M A R Y n s₀ c ((exec (.For target iter body orelse pos) env).wrap K H gd lv) fs s := by
  rw [exec_For]
  refine seg_bind_wrap (wpAny_standAt ?_)
  refine seg_bind_wrap (wpAny_mono h (fun x s₁ h₁ => ?_) fun _ _ x => x.elim)
  refine seg_bind_wrap (wpAny_of_eq (hs x) ?_)
  refine seg_bind_wrap (wpAny_standAt ?_)
  refine seg_bind_wrap (wpAny_holding (wpAny_mono h₁ (fun it s₂ h₂ => ?_) fun _ _ x => x.elim))
  exact seg_call h₂
end

section
variable {prog : Program} {w : World} {A : Around} {R : GenEnd} {Y : Protocol} {n : Nat} {s₀ : Shared} {fs : List Frame} {s : Shared} {env : Env}
theorem seg_forLoop {target : Expr} {it : Value} {body orelse : List Stmt}
    (h : wpAny (model prog w) (A.over (.forLoop target it body orelse env) fs) (pyNext it) (fun r s' => match r with
        | none => Seg (model prog w) A R Y n s₀ (.forLoop target it body orelse env) (.pure (.again (.block orelse env))) fs s'
        | some v => wpAny (model prog w) (A.over (.forLoop target it body orelse env) fs) (assign target env v) (fun _ s'' =>
            Seg (model prog w) A R Y n s₀ (.forLoop target it body orelse env) ((execs body env).wrap (fun f => match f with
              | .next | .cont => .pure (.again (.forLoop target it body orelse env))
              | .brk => .pure (.done .next)
              | .ret v => .pure (.done (.ret v))) (fun e => (do noteFrame e env; theTreesLotGoes e : Sem Unit).wrap (fun _ => .raise e) .raise id id) id id) fs s'') (fun _ _ => False) s') (fun _ _ => False) s)
    (ht : ∀ v, letOwnedTupleGo target it v = pure () := by intro _; rfl) :
    Seg (model prog w) A R Y n s₀ (.forLoop target it body orelse env) ((model prog w).den (.forLoop target it body orelse env)) fs s := by
  show Seg _ A R Y n s₀ _ ((forTurn target it body orelse env).onRaise (fun x => do noteFrame x env; theTreesLotGoes x)) fs s
  unfold forTurn
  rw [Sem.onRaise_eq_wrap]
  refine seg_bind_wrap (wpAny_standAt ?_)
  refine seg_bind_wrap (wpAny_onRaise (wpAny_mono h (fun r s' hr => ?_) fun _ _ x => x.elim))
  cases r with
  | none => exact hr
  | some v =>
    refine seg_bind_wrap (wpAny_of_eq (ht v) ?_)
    refine seg_bind_wrap (wpAny_mono hr (fun _ s'' h'' => ?_) fun _ _ x => x.elim)
    rw [Sem.bind_eq_wrap', Sem.wrap_wrap]
    rw [Sem.wrap_congr (execs body env) _ _ (K' := fun f => match f with
              | .next | .cont => .pure (.again (.forLoop target it body orelse env))
              | .brk => .pure (.done .next)
              | .ret v => .pure (.done (.ret v))) (H' := (fun e => (do noteFrame e env; theTreesLotGoes e : Sem Unit).wrap (fun _ => .raise e) .raise id id))
        (fun f => by cases f <;> rfl)
        (fun e => by first | exact Sem.bind_eq_wrap _ _ | (show (do noteFrame e env; theTreesLotGoes e : Sem Unit).bind (fun _ => .raise e) = _; rw [Sem.bind_eq_wrap]))]
    exact h''

/-- the loop's own end: nothing stands behind it -/
theorem seg_block {c : Code} {k : Result → Sem Fin} {h g l} {c₁ : Code} {p₁ : Pos} {kp} (hk : Seg (model prog w) A R Y n s₀ c₁ (k (.ok .next)) fs s) :
    Seg (model prog w) A R Y n s₀ c (.pure (.again (.block [] env))) (.ret k h g l c₁ p₁ kp :: fs) s := by
  refine seg_again rfl ?_
  show Seg _ A R Y n s₀ _ (do return Fin.done (← (execs [] env).onRaise (fun x => do noteFrame x env; theTreesLotGoes x))) _ s
  exact seg_leaf (.ok .next) hk
end

section
variable {prog : Program} {w : World} {A : Around} {E : Value → Shared → Prop} {s : Shared}
theorem next_genQ {a : Addr} {g n : Nat} {gs : GenState} {P : Nat → Shared → Shared → Prop} {Y : Protocol} {Q : Option Value → Shared → Prop} (hh : A.handled = none)
    (hl : s.heap.NoLimit) (hroom : A.depth < recursionLimit)
    (hg : s.heap.IsGen a g) (hgs : s.gens[g]? = some gs)
    (hgo : gs.Goes (model prog w) A.in1 (fun n s₀ r s₁ => r = .ok (.ret .none) ∧ P n s₀ s₁) Y n (.send .none) (s.setGen g .running))
    (hY : ∀ v s₁ gs', gs'.bare = true → Y (n - 1) (s.setGen g .running) v s₁ (fun r' s'' => match n with
        | 0 => False
        | m + 1 => gs'.Goes (model prog w) A.in1 (fun n s₀ r s₁ => r = .ok (.ret .none) ∧ P n s₀ s₁) Y m r' s'') → Q (some v) (s₁.setGen g gs'))
    (hP : ∀ s₁, P n (s.setGen g .running) s₁ → ∀ h', (∀ b o, s₁.heap.get? b = some o → h'.get? b = some o) → Q none { s₁.setGen g .finished with heap := h' }) :
    wpAny (model prog w) A (pyNext (.ref a)) Q E s := by
  unfold pyNext
  refine wpAny_bind (wpAny_attempt (wpAny_callSpecial?_slot (name := Str.ofString "__next__") hg.typeIs slot_gen_next
    (wpAny_call_entry slot_gen_next hg.typeIs entry_gen_next ?_ (args_gen_next _))))
  show wpAny _ A.in1 (Builtin.Generator.genWake (.ref a) (.send .none)) _ _ s
  unfold Builtin.Generator.genWake
  refine wpAny_bind (wpAny_holding (wpAny_genNumber hg (wpAny_bind (wpAny_genState hgs ?_))))
  cases gs with
  | running => exact hgo.elim
  | finished => exact hgo.elim
  | _ =>
    refine wpAny_bind (wpAny_roomToWake hl hroom ?_)
    show wpAny _ A.in1 (.resume g (.send .none) [] _) _ _ s
    refine wpAny_resumeQ hgs hgo (fun x s₁ hx => ?_) (fun v s₁ gs' hb hv => ?_)
    · obtain ⟨rfl, hp⟩ := hx
      show wpAny _ A.in1 (newExc (.type "StopIteration") [] >>= _) _ _ _
      refine wpAny_bind ?_
      simp only [newExc, newTuple]
      refine wpAny_bind (wpAny_newObj_type ?_ (by size_fits))
      refine wpAny_bind (m := firstArgMember _ _) (wpAny_of_eq (a := Value.none) (by first | rfl | (simp only [firstArgMember]; rfl)) ?_)
      refine wpAny_newObj_type ?_ (by size_fits)
      simp only [raiseNew]
      refine wpAny_bind (wpAny_bind (wpAny_handled ?_))
      first | rw [show A.in1.handled = none from hh] | rw [hh]
      refine wpAny_throw ?_
      refine wpAny_bind (wpAny_isInstance (T := "StopIteration") (b := true) ⟨_, Heap.get?_push_size _ rfl, rfl⟩ isSubtype_stop ?_)
      exact wpAny_pure (hP s₁ hp _ fun b o hb => Heap.get?_push_of_some _ (Heap.get?_push_of_some _ hb))
    · exact wpAny_pure ⟨v, rfl, wpAny_pure (hY v s₁ gs' hb hv)⟩
end

/-- what a generator hands to list(): J holds of what was handed so far, k more are to come -/
structure Drains (prog : Program) (w : World) (A : Around) (I S : Addr) (J : Nat → List Value → Shared → Prop) (Z : List Value → Shared → Prop) : Prop where
  self : ∀ k vs s, J k vs s → ∃ g, s.heap.IsGen I g
  other : ∀ k vs (s : Shared) h', J k vs s → (∀ b o, b ≠ S → s.heap.get? b = some o → h'.get? b = some o) → (∃ o, h'.get? S = some o ∧ o.cls = .type "list") → J k vs { s with heap := h' }
  item : ∀ k vs s, J (k + 1) vs s → wpAny (model prog w) A (pyNext (.ref I)) (fun r s' => ∃ v, r = some v ∧ J k (vs ++ [v]) s' ∧ ∀ o, s.heap.get? S = some o → s'.heap.get? S = some o) (fun _ _ => False) s
  done : ∀ vs s, J 0 vs s → wpAny (model prog w) A (pyNext (.ref I)) (fun r s' => r = none ∧ Z vs s' ∧ ∀ o, s.heap.get? S = some o → s'.heap.get? S = some o) (fun _ _ => False) s

section
variable {prog : Program} {w : World} {A : Around} {s : Shared} {R : Result → Shared → Prop} {I S : Addr} {J : Nat → List Value → Shared → Prop} {Z : List Value → Shared → Prop}
theorem extend_drains (D : Drains prog w A.in1 I S J Z) (res : Value) :
    ∀ (k : Nat) (vs : List Value) (s : Shared) (c : Nat), J k vs s → s.heap.get? S = some { cls := .type "list", dict := none, data := .seq vs.toArray c, slots := #[] } → vs.length + k ≤ 1100 →
    (∀ vs' s' c', Z vs' s' → s'.heap.get? S = some { cls := .type "list", dict := none, data := .seq vs'.toArray c', slots := #[] } → R (.ok (.ret res)) s') →
    codeAny (model prog w) A (.builtin "list.extend.loop" ⟨[.ref S, .ref I, res], []⟩) R s := by
  intro k
  induction k with
  | zero =>
    intro vs s c hJ hS hsz hR
    refine codeAny_builtin F.entry_extend_loop ?_
    rw [Around.under_plainId F.plain_extend_loop _]
    show wpAny _ A.in1 (pyNext (.ref I) >>= _) _ _ s
    refine wpAny_bind (wpAny_mono (D.done vs s hJ) (fun r s' h' => ?_) fun _ _ x => x.elim)
    obtain ⟨rfl, hZ, hk⟩ := h'
    exact wpAny_pure (hR vs s' c hZ (hk _ hS))
  | succ k ih =>
    intro vs s c hJ hS hsz hR
    refine codeAny_builtin F.entry_extend_loop ?_
    rw [Around.under_plainId F.plain_extend_loop _]
    show wpAny _ A.in1 (pyNext (.ref I) >>= _) _ _ s
    refine wpAny_bind (wpAny_mono (D.item k vs s hJ) (fun r s' h' => ?_) fun _ _ x => x.elim)
    obtain ⟨v, rfl, hJ', hk⟩ := h'
    have hS' := hk _ hS
    show wpAny _ A.in1 (updateSeq S (·.push v) >>= _) _ _ _
    refine wpAny_bind ?_
    have e : vs.toArray.push v = (vs ++ [v]).toArray := by simp
    obtain ⟨c2, hS2⟩ : ∃ c2, (s'.heap.update S (Obj.mapSeq (·.push v))).get? S = some { cls := .type "list", dict := none, data := .seq (vs ++ [v]).toArray c2, slots := #[] } := by
      rw [← e]
      exact ⟨_, Heap.get?_update_self _ hS' rfl⟩
    refine wpAny_updateSeq hS' rfl (wpAny_pure ⟨plainId_quiet F.plain_extend_loop _, ih (vs ++ [v]) _ c2 (D.other _ _ _ _ hJ' (fun b o hb e => (Heap.get?_update_other _ _ (Ne.symm hb)).trans e) ⟨_, hS2, rfl⟩) hS2 (by rw [List.length_append, List.length_singleton]; omega) hR⟩)
      (by rw [List.size_toArray, PySem.sizeLine_eq]; omega) (by show (vs.toArray.push v).size ≤ sizeLine + 1; rw [Array.size_push, List.size_toArray, PySem.sizeLine_eq]; omega)

theorem extend_gen (D : Drains prog w A.in1 I S J Z) (res : Value) (k : Nat) (hJ : J k [] s) (hk : k ≤ 1100) (hSI : S ≠ I) (c₀ : Nat)
    (hS : s.heap.get? S = some { cls := .type "list", data := .seq #[] c₀ })
    (hR : ∀ vs' s' c', Z vs' s' → s'.heap.get? S = some { cls := .type "list", dict := none, data := .seq vs'.toArray c', slots := #[] } → R (.ok (.ret res)) s') :
    wpAny (model prog w) A.in1 (Builtin.List.listExtendWith (.ref S) (.ref I) res)
      (fun fin s' => match fin with | .done f => R (.ok f) s' | .again c' => c'.quiet = true ∧ codeAny (model prog w) A c' R s') (fun e s' => R (.error e) s') s := by
  obtain ⟨gn, hgen⟩ := D.self _ _ _ hJ
  unfold Builtin.List.listExtendWith
  refine wpAny_bind (wpAny_typeOf hgen.typeIs ?_)
  have h1 : Builtin.List.listSameRef (.ref S) (.ref I) = false := by simp [Builtin.List.listSameRef, hSI]
  have h2 : (Value.type "generator" == Value.type "list") = false := by decide
  have h3 : (Value.type "generator" == Value.type "tuple") = false := by decide
  simp only [h1, h2, h3, Bool.or_false, Bool.false_eq_true, if_false]
  refine wpAny_bind (wpAny_pyIter_gen hgen ?_)
  refine wpAny_bind (wpAny_holding ?_)
  unfold Builtin.List.listLengthHint
  refine wpAny_bind (wpAny_specialOf hgen.typeIs F.gen_no_len ?_)
  show wpAny _ A.in1 (specialOf (Value.ref I) (Str.ofString "__length_hint__") >>= _) _ _ _
  refine wpAny_bind (wpAny_specialOf hgen.typeIs F.gen_no_hint ?_)
  refine wpAny_pure ?_
  show wpAny _ A.in1 (rule "list.extend.makes-room" >>= fun _ => Builtin.List.listTouch (.ref S) >>= fun _ =>
    again (.builtin "list.extend.loop" ⟨[.ref S, .ref I, res], []⟩)) _ _ _
  refine wpAny_bind (wpAny_rule ?_)
  refine wpAny_bind ?_
  show wpAny _ A.in1 (updateSeq S (·.push .none) >>= fun _ => updateSeq S (·.pop)) _ _ _
  refine wpAny_bind (wpAny_updateSeq hS rfl ?_)
  have hS₂ := Heap.get?_update_self (Obj.mapSeq (·.push Value.none)) hS rfl
  refine wpAny_updateSeq (hz := by seq_fits) hS₂ rfl ?_
  have hS₃ := Heap.get?_update_self (Obj.mapSeq (·.pop)) hS₂ rfl
  have J₁ := D.other _ _ _ (s.heap.update S (Obj.mapSeq (·.push Value.none))) hJ (fun b o hb e => (Heap.get?_update_other _ _ (Ne.symm hb)).trans e) ⟨_, hS₂, rfl⟩
  exact wpAny_pure ⟨plainId_quiet F.plain_extend_loop _, extend_drains D res k [] _ _ (D.other _ _ _ _ J₁ (fun b o hb e => (Heap.get?_update_other _ _ (Ne.symm hb)).trans e) ⟨_, hS₃, rfl⟩) hS₃ (by simpa using hk) hR⟩

theorem init_gen (D : Drains prog w A.in1 I S J Z) (k : Nat) (hJ : J k [] s) (hk : k ≤ 1100) (hSI : S ≠ I)
    (hS : s.heap.get? S = some { cls := .type "list", data := .seq #[] })
    (hR : ∀ vs' s' c', Z vs' s' → s'.heap.get? S = some { cls := .type "list", dict := none, data := .seq vs'.toArray c', slots := #[] } → R (.ok (.ret .none)) s') :
    wpAny (model prog w) A.in1 (Builtin.«list.__init__» ⟨[.ref S, .ref I], []⟩)
      (fun fin s' => match fin with | .done f => R (.ok f) s' | .again c' => c'.quiet = true ∧ codeAny (model prog w) A c' R s') (fun e s' => R (.error e) s') s := by
  show wpAny _ A.in1 (do let old ← Builtin.List.listItems (.ref S); Builtin.List.listUpdate (.ref S) (fun _ => #[]); letGo old.toList.reverse; Builtin.List.listExtendWith (.ref S) (.ref I) .none) _ _ s
  refine wpAny_bind ?_
  unfold Builtin.List.listItems
  refine wpAny_bind (wpAny_seqItems hS rfl (wpAny_pure ?_))
  show wpAny _ A.in1 (updateSeq S (fun _ => #[]) >>= fun _ => letGo (#[] : Array Value).toList.reverse >>= fun _ => Builtin.List.listExtendWith (.ref S) (.ref I) .none) _ _ s
  refine wpAny_bind (wpAny_updateSeq hS rfl ?_)
  have hS₂ := Heap.get?_update_self (Obj.mapSeq (fun _ => (#[] : Array Value))) hS rfl
  have oth : ∀ b o, b ≠ S → s.heap.get? b = some o → (s.heap.update S (Obj.mapSeq (fun _ => (#[] : Array Value)))).get? b = some o :=
    fun b o hb e => (Heap.get?_update_other _ _ (Ne.symm hb)).trans e
  refine wpAny_bind (wpAny_letGo ?_)
  exact extend_gen D .none k (D.other _ _ _ _ hJ oth ⟨_, hS₂, rfl⟩) hk hSI _ hS₂ hR
end

section
variable {prog : Program} {w : World} {A : Around} {E : Value → Shared → Prop} {s : Shared} {I : Addr} {J : Nat → List Value → Shared → Prop} {Z : List Value → Shared → Prop}
theorem list_drains {Q : Value → Shared → Prop} (D : Drains prog w A.in1.in1 I s.heap.objs.size J Z) (k : Nat) (hk : k ≤ 1100)
    (hJ : J k [] { s with heap := s.heap.push { cls := .type "list", data := .seq #[] } }) (hI : I < s.heap.objs.size)
    (hQ : ∀ vs' s' c', Z vs' s' → s'.heap.get? s.heap.objs.size = some { cls := .type "list", dict := none, data := .seq vs'.toArray c', slots := #[] } → Q (.ref s.heap.objs.size) s') :
    wpAny (model prog w) A (call (.type "list") [.ref I]) Q E s := by
  refine callType_codes (Q₁ := fun obj s₁ => obj = .ref s.heap.objs.size ∧ s₁ = { s with heap := s.heap.push { cls := .type "list", data := .seq #[] } }) F.called_list (F.typeCall_list_1 _) F.entry_list_init
    (code_list_new _ ⟨rfl, rfl⟩) fun obj s₁ h₁ => ?_
  obtain ⟨rfl, rfl⟩ := h₁
  have hS : (s.heap.push { cls := .type "list", data := .seq #[] }).get? s.heap.objs.size = some { cls := .type "list", data := .seq #[] } := Heap.get?_push_size _ rfl
  refine ⟨⟨_, hS, rfl⟩, F.args_list_init_2 _ _, init_gen D k hJ hk (Nat.ne_of_gt hI) hS fun vs' s' c' hZ hS' => ?_⟩
  exact ⟨rfl, hQ vs' s' c' hZ hS'⟩
end
end Mine

end
section
open PySem PySem.W PySem.Calls PyProof.Rows
set_option Elab.async false
set_option maxRecDepth 100000
namespace Mine
theorem fillB1 : (PySem.Challenge.rw_et5026_01 = PySem.Challenge.rw_et5026_01) ∧ (∀ P, hd.heap_39 P = hd.heap_39 P) := by
  k_fill
  exact ⟨rfl, fun _ => rfl⟩

abbrev aiEnv (L : Addr) : Env := envOf (Str.ofString "ambiguous_identifier") (fnScope (defAt 1)) L 21 (.ref 20)
def aiBody : List Stmt := forBody (nth (fnBody (defAt 1)) 5)
def oI : Option Int → Tok → Value | none, _ => .none | some i, t => .int i t
def oS : Option Str → Tok → Value | none, _ => .none | some i, t => .str i t
structure VS where
  tl : Addr
  ia : Addr
  ix : Int
  pt : Str
  pv : Value
  tx : Str
  sv : Value
  fd : Option Int
  sc : Bool
  bd : Int
  idt : Option Str
  po : Value
structure TS where
  t0 : Tok
  t1 : Tok
  t2 : Tok
  t3 : Tok
  t4 : Tok
  t5 : Tok
def VS.ps (v : VS) (t : TS) : List (Str × Value) := [(Str.ofString "tokens", .ref v.tl), (Str.ofString "idents_to_avoid", .ref v.ia), (Str.ofString "index", .int v.ix t.t0), (Str.ofString "prev_text", .str v.pt t.t1), (Str.ofString "prev_start", v.pv),
  (Str.ofString "text", .str v.tx t.t2), (Str.ofString "start", v.sv), (Str.ofString "func_depth", oI v.fd t.t3), (Str.ofString "seen_colon", .bool v.sc), (Str.ofString "brace_depth", .int v.bd t.t4), (Str.ofString "ident", oS v.idt t.t5), (Str.ofString "pos", v.po)]
def VS.sx (v : VS) : SX Value := ⟨v.pt, v.pv, v.fd, v.sc, v.bd⟩
abbrev iaO (a b c : Tok) : Obj := { cls := .type "tuple", data := .seq #[.str (Str.ofString "l") a, .str (Str.ofString "O") b, .str (Str.ofString "I") c] }
def nm (m : Str → Option Value) (v : VS) : Prop := ∃ t : TS, ∀ p ∈ v.ps t, m p.1 = some p.2

theorem isDL {p : Str} : (false || decide (p = Str.ofString "def") || decide (p = Str.ofString "lambda")) = true ↔ p ∈ dlT := by
  simp [dlT]
theorem noDL {p : Str} : (false || decide (p = Str.ofString "def") || decide (p = Str.ofString "lambda")) = false ↔ p ∉ dlT := by
  simp [dlT]
theorem fd2_dl {α : Type} {pt : Str} {pv : α} {fd : Option Int} {sc : Bool} {bd : Int} (h : pt ∈ dlT) : fd2 (SX.mk pt pv fd sc bd) = some bd := if_pos h
theorem fd2_no {α : Type} {pt : Str} {pv : α} {fd : Option Int} {sc : Bool} {bd : Int} (h : pt ∉ dlT) : fd2 (SX.mk pt pv fd sc bd) = fd := if_neg h
theorem sc2_dl {α : Type} {pt tx : Str} {pv : α} {fd : Option Int} {sc : Bool} {bd : Int} (h : pt ∈ dlT) : sc2 (SX.mk pt pv fd sc bd) tx = false := if_pos h
theorem sc2_yes {α : Type} {pt tx : Str} {pv : α} {fd : Option Int} {sc : Bool} {bd : Int} (h : pt ∉ dlT) (h1 : fd = some bd) (h2 : (tx == Str.ofString ":") = true) : sc2 (SX.mk pt pv fd sc bd) tx = true := by
  unfold sc2; rw [if_neg h, if_pos ⟨h1, beq_iff_eq.mp h2⟩]
theorem sc2_no {α : Type} {pt tx : Str} {pv : α} {fd : Option Int} {sc : Bool} {bd : Int} (h : pt ∉ dlT) (h1 : ¬ (fd = some bd ∧ (tx == Str.ofString ":") = true)) : sc2 (SX.mk pt pv fd sc bd) tx = sc := by
  unfold sc2; rw [if_neg h, if_neg (fun ⟨a, b⟩ => h1 ⟨a, beq_iff_eq.mpr b⟩)]

theorem nm_of {m : Str → Option Value} {v : VS} {t0 t1 t2 t3 t4 t5 : Tok} (h0 : m (Str.ofString "tokens") = some (.ref v.tl)) (h1 : m (Str.ofString "idents_to_avoid") = some (.ref v.ia)) (h2 : m (Str.ofString "index") = some (.int v.ix t0)) (h3 : m (Str.ofString "prev_text") = some (.str v.pt t1)) (h4 : m (Str.ofString "prev_start") = some v.pv)
    (h5 : m (Str.ofString "text") = some (.str v.tx t2)) (h6 : m (Str.ofString "start") = some v.sv) (h7 : m (Str.ofString "func_depth") = some (oI v.fd t3)) (h8 : m (Str.ofString "seen_colon") = some (.bool v.sc)) (h9 : m (Str.ofString "brace_depth") = some (.int v.bd t4)) (h10 : m (Str.ofString "ident") = some (oS v.idt t5)) (h11 : m (Str.ofString "pos") = some v.po) : nm m v := by
  refine ⟨⟨t0, t1, t2, t3, t4, t5⟩, ?_⟩
  intro p hp
  simp only [VS.ps, List.mem_cons, List.not_mem_nil, or_false] at hp
  rcases hp with rfl | rfl | rfl | rfl | rfl | rfl | rfl | rfl | rfl | rfl | rfl | rfl <;> assumption

def VS.put (v : VS) (o : Option (Str × Value)) : VS := { v with idt := o.map (·.1), po := match o with | none => .none | some p => p.2 }
theorem hard_any {x : Str} : ([Str.ofString "l", Str.ofString "O", Str.ofString "I"].any fun y => y == x) = true → x ∈ hardT := fun h => any_hard.mp h
theorem as_any {x : Str} : ([Str.ofString "as", Str.ofString "for", Str.ofString "global", Str.ofString "nonlocal"].any fun y => y == x) = true ↔ x ∈ asT := by
  unfold asT
  simp only [List.any_eq_true, beq_iff_eq]
  exact ⟨fun ⟨y, hy, e⟩ => e ▸ hy, fun h => ⟨x, h, rfl⟩⟩
theorem as_no {x : Str} (h : ([Str.ofString "as", Str.ofString "for", Str.ofString "global", Str.ofString "nonlocal"].any fun y => y == x) = false) : x ∉ asT := fun hm => by
  rw [as_any.mpr hm] at h; cases h
theorem bne {x y : Str} (h : (x == y) = false) : x ≠ y := by simpa using h
theorem isPL {p : Str} : (false || decide (p = Str.ofString "lambda") || decide (p = Str.ofString ",") || decide (p = Str.ofString "*") || decide (p = Str.ofString "**") || decide (p = Str.ofString "(")) = true ↔ p ∈ plT := by
  simp [plT, or_assoc]
theorem noPL {p : Str} : (false || decide (p = Str.ofString "lambda") || decide (p = Str.ofString ",") || decide (p = Str.ofString "*") || decide (p = Str.ofString "**") || decide (p = Str.ofString "(")) = false ↔ p ∉ plT := by
  rw [← isPL]; cases (false || decide (p = Str.ofString "lambda") || decide (p = Str.ofString ",") || decide (p = Str.ofString "*") || decide (p = Str.ofString "**") || decide (p = Str.ofString "(")) <;> simp
theorem back3 {g h : Heap} {L : Addr} {p1 p2 q : Addr × Obj} {tl : List (Addr × Obj)} (N : News g L h (p1 :: p2 :: q :: tl)) : News g L h (p1 :: p2 :: tl) := fun p hp => N p (by
  simp only [List.mem_cons] at hp ⊢
  rcases hp with h | h | h <;> simp [h])
theorem back4 {g h : Heap} {L : Addr} {p1 p2 q r : Addr × Obj} {tl : List (Addr × Obj)} (N : News g L h (r :: p1 :: p2 :: q :: tl)) : News g L h (p1 :: p2 :: tl) := back3 fun p hp => N p (.tail _ hp)
theorem tok_sub {prog : Program} {w : World} {A : Around} {E : Value → Shared → Prop} {s : Shared} {h₀ : Heap} {L l : Addr} {value slice : PySem.Expr} {news : List (Addr × Obj)} {us : List Value} {n : Nat} {k : Int} {u : Tok} {v : Value} {Q : Value → Shared → Prop} (N : News h₀ L s.heap news) (hm : (l, listOf us.toArray n) ∈ news)
    (h0 : 0 ≤ k) (hfit : k < 2 ^ 63) (hv : us[k.toNat]? = some v) (h : Q v s)
    (hs : subscripted slice false (.ref l) (.int k u) = operate [.ref l, .int k u] (getItem (.ref l) (.int k u)) := by with_unfolding_all rfl) :
    wpAny (model prog w) A (subscriptTail value slice (.ref l) (.int k u)) Q E s := by
  have hl : s.heap.IsList l us.toArray := ⟨_, (N _ hm).1, rfl, n, rfl⟩
  exact tail_any hl.typeIs slot_list_getitem.lookup (wpAny_getItem_list hl h0 hfit (by simpa using hv) h) hs
theorem tok_len {prog : Program} {w : World} {A : Around} {E : Value → Shared → Prop} {s : Shared} {h₀ : Heap} {L l : Addr} {news : List (Addr × Obj)} {us : List Value} {n : Nat} {Q : Value → Shared → Prop} (N : News h₀ L s.heap news) (hm : (l, listOf us.toArray n) ∈ news) (hfit : us.length ≤ 1100)
    (h : Q (.int (us.length : Int) (s.toks + 1)) { s with toks := s.toks + 1 + 1 }) : wpAny (model prog w) A (call (.builtin "len") [.ref l]) Q E s := by
  have hl : s.heap.IsList l us.toArray := ⟨_, (N _ hm).1, rfl, n, rfl⟩
  have e : us.toArray.size = us.length := List.size_toArray
  exact len_list hl (by rw [e]; omega) (by rw [e]; exact h)
local macro_rules | `(tactic| walk_at "call builtin:len") => `(tactic| (k_here; (with_reducible show wpAny _ _ (call (Value.builtin "len") [Value.ref _]) _ _ _); k_dflt (refine' tok_len ?ktn ?ktm ?ktf ?_; (case ktn => k_asm); (case ktm => k_memK); (case ktf => assumption))))
local macro_rules | `(tactic| walk_at "subscriptTail") => `(tactic| (k_here; (with_reducible show wpAny _ _ (subscriptTail _ _ (Value.ref _) (Value.int _ _)) _ _ _); (rename _[_]? = some _ => kTok); k_dflt (refine' tok_sub ?ktn ?ktm ?kt0 ?ktf ?ktv ?_; (case ktn => k_asm); (case ktm => k_memK); (case kt0 => first | decide | omega); (case ktf => first | decide | omega); (case ktv => exact kTok))))
section
variable {prog : Program} {w : World} {dp un : Nat} {fr : Option (List Env)} {gd : Option (List Code)} {s : Shared} {g : Heap} {mean : ExcName → Option Value} {mg mb : Str → Option Value} {L : Addr} {m : Str → Option Value}
theorem S2 {v : VS} {news : List (Addr × Obj)} {Q : Flow → Shared → Prop} {E : Value → Shared → Prop} (X : (hd.heap_39 w.params).In g) (T : Top hd.view_39 (looseW hd.view_39 []) mean mg mb g) (hdp : dp + 20 < recursionLimit) (hun : un + 250 < cLine)
    (F : Fr g L s.heap m) (hm : nm m v) (N : News g L s.heap news)
    (h : ∀ h' tk' m', Fr g L h' m' → nm m' { v with fd := fd2 v.sx, sc := sc2 v.sx v.tx } → News g L h' (news) → Q .next { s with heap := h', toks := tk' }) :
    wpAny (model prog w) (Ar dp un fr gd) (exec (nth aiBody 2) (aiEnv L)) Q E s := by
  dsimp only [aiBody, defAt, PySem.Challenge.pw_et5026_01, nth, fnBody, forBody, ifElse, ifThen, fnScope, aiEnv]
  have kMark := kdMark
  obtain ⟨tl, ia, ix, pt, pv, tx, sv, fd, sc, bd, idt, po⟩ := v
  obtain ⟨t, hm⟩ := hm
  rw [ov_of hm] at F
  dsimp only [VS.ps] at F
  clear hm
  dsimp only at *
  cases fd with
  | none =>
    dsimp only [oI] at F
    w_on
    w_strict k_steps
    all_goals ((rename Fr _ _ _ _ => kF); (rename News _ _ _ _ => kN))
    · rename (_ || _) = true => hc
      refine h _ _ _ kF ?_ (by first | exact kN | exact fun p hp => kN p (.tail _ hp) | exact fun p hp => kN p (.tail _ (.tail _ hp)))
      dsimp only [VS.sx]
      rw [fd2_dl (isDL.mp hc), sc2_dl (isDL.mp hc)]
      exact nm_of rfl rfl rfl rfl rfl rfl rfl rfl rfl rfl rfl rfl

    · rename (_ || _) = false => hc
      refine h _ _ _ kF ?_ (by first | exact kN | exact fun p hp => kN p (.tail _ hp) | exact fun p hp => kN p (.tail _ (.tail _ hp)))
      dsimp only [VS.sx]
      rw [fd2_no (noDL.mp hc), sc2_no (noDL.mp hc) (by rintro ⟨h, _⟩; cases h)]
      exact nm_of (t3 := t.t3) rfl rfl rfl rfl rfl rfl rfl rfl rfl rfl rfl rfl

  | some f =>
    dsimp only [oI] at F
    w_on
    w_strict k_steps
    all_goals ((rename Fr _ _ _ _ => kF); (rename News _ _ _ _ => kN))
    · rename (_ || _) = true => hc
      refine h _ _ _ kF ?_ (by first | exact kN | exact fun p hp => kN p (.tail _ hp) | exact fun p hp => kN p (.tail _ (.tail _ hp)))
      dsimp only [VS.sx]
      rw [fd2_dl (isDL.mp hc), sc2_dl (isDL.mp hc)]
      exact nm_of rfl rfl rfl rfl rfl rfl rfl rfl rfl rfl rfl rfl

    · rename (_ || _) = false => hc
      rename (_ == Str.ofString ":") = true => h2
      rename bd = f => h3
      refine h _ _ _ kF ?_ (by first | exact kN | exact fun p hp => kN p (.tail _ hp) | exact fun p hp => kN p (.tail _ (.tail _ hp)))
      dsimp only [VS.sx]
      rw [fd2_no (noDL.mp hc), sc2_yes (noDL.mp hc) (by rw [h3]) h2]
      exact nm_of rfl rfl rfl rfl rfl rfl rfl rfl rfl rfl rfl rfl

    · rename (_ || _) = false => hc
      rename bd ≠ f => h3
      refine h _ _ _ kF ?_ (by first | exact kN | exact fun p hp => kN p (.tail _ hp) | exact fun p hp => kN p (.tail _ (.tail _ hp)))
      dsimp only [VS.sx]
      rw [fd2_no (noDL.mp hc), sc2_no (noDL.mp hc) (by rintro ⟨h, _⟩; cases h; exact h3 rfl)]
      exact nm_of rfl rfl rfl rfl rfl rfl rfl rfl rfl rfl rfl rfl

    · rename (_ || _) = false => hc
      rename (_ == Str.ofString ":") = false => h2
      refine h _ _ _ kF ?_ (by first | exact kN | exact fun p hp => kN p (.tail _ hp) | exact fun p hp => kN p (.tail _ (.tail _ hp)))
      dsimp only [VS.sx]
      rw [fd2_no (noDL.mp hc), sc2_no (noDL.mp hc) (by rintro ⟨_, h⟩; rw [h2] at h; cases h)]
      exact nm_of rfl rfl rfl rfl rfl rfl rfl rfl rfl rfl rfl rfl

theorem S3 {v : VS} {news : List (Addr × Obj)} {Q : Flow → Shared → Prop} {E : Value → Shared → Prop} (X : (hd.heap_39 w.params).In g) (T : Top hd.view_39 (looseW hd.view_39 []) mean mg mb g) (hdp : dp + 20 < recursionLimit) (hun : un + 250 < cLine)
    (F : Fr g L s.heap m) (hm : nm m v) (N : News g L s.heap news)
    (h : ∀ h' tk' m', Fr g L h' m' → nm m' { v with bd := bd3 v.sx v.tx } → News g L h' (news) → Q .next { s with heap := h', toks := tk' }) :
    wpAny (model prog w) (Ar dp un fr gd) (exec (nth aiBody 3) (aiEnv L)) Q E s := by
  dsimp only [aiBody, defAt, PySem.Challenge.pw_et5026_01, nth, fnBody, forBody, ifElse, ifThen, fnScope, aiEnv]
  have kMark := kdMark
  obtain ⟨tl, ia, ix, pt, pv, tx, sv, fd, sc, bd, idt, po⟩ := v
  obtain ⟨t, hm⟩ := hm
  rw [ov_of hm] at F
  dsimp only [VS.ps] at F
  clear hm
  dsimp only at *
  w_on
  w_strict k_steps
  all_goals ((rename Fr _ _ _ _ => kF); (rename News _ _ _ _ => kN))
  all_goals (rename List.isEmpty (Builtin.Str.occurrences (Str.ofString "([{") tx 0 _ 1) = _ => h1)
  all_goals (change occs opT tx = _ at h1)
  · rename List.isEmpty (Builtin.Str.occurrences (Str.ofString ")]}") tx 0 _ 1) = _ => h2
    change occs clT tx = _ at h2
    refine h _ _ _ kF ?_ (by first | exact kN | exact fun p hp => kN p (.tail _ hp))
    dsimp only [VS.sx, bd3]
    rw [if_pos h1, if_pos h2]
    exact nm_of rfl rfl rfl rfl rfl rfl rfl rfl rfl rfl rfl rfl
  · rename List.isEmpty (Builtin.Str.occurrences (Str.ofString ")]}") tx 0 _ 1) = _ => h2
    change occs clT tx = _ at h2
    refine h _ _ _ kF ?_ (by first | exact kN | exact fun p hp => kN p (.tail _ hp))
    dsimp only [VS.sx, bd3]
    rw [if_pos h1, if_neg (by rw [h2]; exact Bool.false_ne_true)]
    exact nm_of rfl rfl rfl rfl rfl rfl rfl rfl rfl rfl rfl rfl
  · refine h _ _ _ kF ?_ (by first | exact kN | exact fun p hp => kN p (.tail _ hp))
    dsimp only [VS.sx, bd3]
    rw [if_neg (by rw [h1]; exact Bool.false_ne_true)]
    exact nm_of rfl rfl rfl rfl rfl rfl rfl rfl rfl rfl rfl rfl
theorem S4 {v : VS} {news : List (Addr × Obj)} {Q : Flow → Shared → Prop} {E : Value → Shared → Prop} (X : (hd.heap_39 w.params).In g) (T : Top hd.view_39 (looseW hd.view_39 []) mean mg mb g) (hdp : dp + 20 < recursionLimit) (hun : un + 250 < cLine)
    (F : Fr g L s.heap m) (hm : nm m (v.put none)) {us : List Value} {n : Nat} {a b c : Tok} (N : News g L s.heap ((v.ia, iaO a b c) :: news))
    (h : ∀ h' tk' m', Fr g L h' m' → nm m' (v.put (if (v.tx = Str.ofString ":=" ∨ (v.tx = Str.ofString "=" ∧ v.bd = 0)) ∧ v.pt ∈ hardT then some (v.pt, v.pv) else none)) → News g L h' (((v.ia, iaO a b c) :: news)) → Q .next { s with heap := h', toks := tk' }) :
    wpAny (model prog w) (Ar dp un fr gd) (exec (nth aiBody 4) (aiEnv L)) Q E s := by
  dsimp only [aiBody, defAt, PySem.Challenge.pw_et5026_01, nth, fnBody, forBody, ifElse, ifThen, fnScope, aiEnv]
  have kMark := kdMark
  obtain ⟨tl, ia, ix, pt, pv, tx, sv, fd, sc, bd, idt, po⟩ := v
  obtain ⟨t, hm⟩ := hm
  rw [ov_of hm] at F
  dsimp only [VS.ps, VS.put] at F
  clear hm
  dsimp only at *
  w_on
  w_strict k_steps
  all_goals ((rename Fr _ _ _ _ => kF); (rename News _ _ _ _ => kN))
  · rename (tx == _) = true => h1
    rename List.any _ _ = true => h2
    refine h _ _ _ kF ?_ (by first | exact kN | exact fun p hp => kN p (.tail _ hp))
    rw [if_pos ⟨.inl (beq_iff_eq.mp h1), any_hard.mp h2⟩]
    exact nm_of rfl rfl rfl rfl rfl rfl rfl rfl rfl rfl rfl rfl
  · rename (tx == _) = true => h1
    rename List.any _ _ = false => h2
    refine h _ _ _ kF ?_ (by first | exact kN | exact fun p hp => kN p (.tail _ hp))
    rw [if_neg (fun e => any_soft h2 e.2)]
    exact nm_of rfl rfl rfl rfl rfl rfl rfl rfl rfl rfl rfl rfl
  · rename (tx == _) = true => h1
    rename bd = 0 => h3
    rename List.any _ _ = true => h2
    refine h _ _ _ kF ?_ (by first | exact kN | exact fun p hp => kN p (.tail _ hp))
    rw [if_pos ⟨.inr ⟨beq_iff_eq.mp h1, h3⟩, any_hard.mp h2⟩]
    exact nm_of rfl rfl rfl rfl rfl rfl rfl rfl rfl rfl rfl rfl
  · rename List.any _ _ = false => h2
    refine h _ _ _ kF ?_ (by first | exact kN | exact fun p hp => kN p (.tail _ hp))
    rw [if_neg (fun e => any_soft h2 e.2)]
    exact nm_of rfl rfl rfl rfl rfl rfl rfl rfl rfl rfl rfl rfl
  · rename (tx == Str.ofString ":=") = false => h1
    rename bd ≠ 0 => h3
    refine h _ _ _ kF ?_ (by first | exact kN | exact fun p hp => kN p (.tail _ hp))
    rw [if_neg (fun e => e.1.elim (bne h1) fun e => h3 e.2)]
    exact nm_of rfl rfl rfl rfl rfl rfl rfl rfl rfl rfl rfl rfl
  · rename (tx == Str.ofString ":=") = false => h1
    rename (tx == Str.ofString "=") = false => h2
    refine h _ _ _ kF ?_ (by first | exact kN | exact fun p hp => kN p (.tail _ hp))
    rw [if_neg (fun e => e.1.elim (bne h1) fun e => bne h2 e.1)]
    exact nm_of rfl rfl rfl rfl rfl rfl rfl rfl rfl rfl rfl rfl
theorem S5 {v : VS} {o : Option (Str × Value)} {news : List (Addr × Obj)} {Q : Flow → Shared → Prop} {E : Value → Shared → Prop} (X : (hd.heap_39 w.params).In g) (T : Top hd.view_39 (looseW hd.view_39 []) mean mg mb g) (hdp : dp + 20 < recursionLimit) (hun : un + 250 < cLine)
    (F : Fr g L s.heap m) (hm : nm m (v.put o)) {us : List Value} {n : Nat} {a b c : Tok} (N : News g L s.heap ((v.ia, iaO a b c) :: news))
    (h : ∀ h' tk' m', Fr g L h' m' → nm m' (v.put (if v.pt ∈ asT ∧ v.tx ∈ hardT then some (v.tx, v.sv) else o)) → News g L h' (((v.ia, iaO a b c) :: news)) → Q .next { s with heap := h', toks := tk' }) :
    wpAny (model prog w) (Ar dp un fr gd) (exec (nth aiBody 5) (aiEnv L)) Q E s := by
  dsimp only [aiBody, defAt, PySem.Challenge.pw_et5026_01, nth, fnBody, forBody, ifElse, ifThen, fnScope, aiEnv]
  have kMark := kdMark
  obtain ⟨tl, ia, ix, pt, pv, tx, sv, fd, sc, bd, idt, po⟩ := v
  obtain ⟨t, hm⟩ := hm
  rw [ov_of hm] at F
  dsimp only [VS.ps, VS.put] at F
  clear hm
  dsimp only at *
  w_on
  w_strict k_steps
  all_goals ((rename Fr _ _ _ _ => kF); (rename News _ _ _ _ => kN))
  · rename List.any _ (fun x => x == pt) = true => h1
    rename List.any _ (fun x => x == tx) = true => h2
    refine h _ _ _ kF ?_ (by first | exact kN | exact fun p hp => kN p (.tail _ hp) | exact fun p hp => kN p (.tail _ (.tail _ hp)))
    rw [if_pos ⟨as_any.mp h1, any_hard.mp h2⟩]
    exact nm_of rfl rfl rfl rfl rfl rfl rfl rfl rfl rfl rfl rfl
  · rename List.any _ (fun x => x == tx) = false => h2
    refine h _ _ _ kF ?_ (by first | exact kN | exact fun p hp => kN p (.tail _ hp) | exact fun p hp => kN p (.tail _ (.tail _ hp)))
    rw [if_neg (fun e => any_soft h2 e.2)]
    exact nm_of rfl rfl rfl rfl rfl rfl rfl rfl rfl rfl rfl rfl
  · rename List.any _ (fun x => x == pt) = false => h1
    refine h _ _ _ kF ?_ (by first | exact kN | exact fun p hp => kN p (.tail _ hp) | exact fun p hp => kN p (.tail _ (.tail _ hp)))
    rw [if_neg (fun e => as_no h1 e.1)]
    exact nm_of rfl rfl rfl rfl rfl rfl rfl rfl rfl rfl rfl rfl
theorem S6 {v : VS} {o : Option (Str × Value)} {news : List (Addr × Obj)} {Q : Flow → Shared → Prop} {E : Value → Shared → Prop} (X : (hd.heap_39 w.params).In g) (T : Top hd.view_39 (looseW hd.view_39 []) mean mg mb g) (hdp : dp + 20 < recursionLimit) (hun : un + 250 < cLine)
    (F : Fr g L s.heap m) (hm : nm m (v.put o)) {us : List Value} {n nt kd ln : Nat} {a b c : Tok} (N : News g L s.heap ((v.ia, iaO a b c) :: (v.tl, listOf us.toArray n) :: news)) (hix : 0 ≤ v.ix) (hle : v.ix < us.length) (hfit : us.length ≤ 1100) (nx : Option Str) (hnx : match nx with | none => v.ix + 1 = us.length | some x => v.ix + 1 < us.length ∧ ∃ (na : Addr) (t1 : Tok) (x1 x3 x4 x5 : Value) (n5 : Nat), us[(v.ix + 1).toNat]? = some (.ref na) ∧ (na, ({ cls := .type "tuple", data := .seq #[x1, .str x t1, x3, x4, x5] n5 } : Obj)) ∈ news)
    (h : ∀ h' tk' m', Fr g L h' m' → nm m' (v.put (if v.fd ≠ none ∧ v.sc = false ∧ (∃ n, nx = some n ∧ occs nxT n = false) ∧ v.pt ∈ plT ∧ v.tx ∈ hardT then some (v.tx, v.sv) else o)) → News g L h' (((v.ia, iaO a b c) :: (v.tl, listOf us.toArray n) :: news)) → Q .next { s with heap := h', toks := tk' }) :
    wpAny (model prog w) (Ar dp un fr gd) (exec (nth aiBody 6) (aiEnv L)) Q E s := by
  dsimp only [aiBody, defAt, PySem.Challenge.pw_et5026_01, nth, fnBody, forBody, ifElse, ifThen, fnScope, aiEnv]
  have kMark := kdMark
  obtain ⟨tl, ia, ix, pt, pv, tx, sv, fd, sc, bd, idt, po⟩ := v
  obtain ⟨t, hm⟩ := hm
  rw [ov_of hm] at F
  dsimp only [VS.ps, VS.put] at F
  clear hm
  dsimp only at *
  cases fd with
  | none =>
    dsimp only [oI] at F
    w_on
    w_strict k_steps
    refine h _ _ _ F ?_ (by first | exact N | exact fun p hp => N p (.tail _ hp))
    rw [if_neg (fun e => e.1 rfl)]
    exact nm_of (t3 := t.t3) rfl rfl rfl rfl rfl rfl rfl rfl rfl rfl rfl rfl
  | some f =>
    dsimp only [oI] at F
    cases nx with
    | none =>
      dsimp only at hnx
      w_on
      w_strict k_steps
      all_goals ((rename Fr _ _ _ _ => kF); (rename News _ _ _ _ => kN))
      · rename sc = true => h1
        refine h _ _ _ kF ?_ (by first | exact kN | exact fun p hp => kN p (.tail _ hp))
        rw [if_neg (fun e => by rw [h1] at e; exact absurd e.2.1 (by decide))]
        exact nm_of rfl rfl rfl rfl rfl rfl rfl rfl rfl rfl rfl rfl
      · refine h _ _ _ kF ?_ (by first | exact kN | exact fun p hp => kN p (.tail _ hp))
        rw [if_neg (fun e => by obtain ⟨_, e, _⟩ := e.2.2.1; cases e)]
        exact nm_of rfl rfl rfl rfl rfl rfl rfl rfl rfl rfl rfl rfl
    | some x =>
      dsimp only at hnx
      obtain ⟨hn1, na, t1, x1, x3, x4, x5, n5, kTok, hmem⟩ := hnx
      have N2 : News g L s.heap ((ia, iaO a b c) :: (tl, listOf us.toArray n) :: (na, ({ cls := .type "tuple", data := .seq #[x1, .str x t1, x3, x4, x5] n5 } : Obj)) :: news) := fun p hp => by
        rcases List.mem_cons.mp hp with rfl | hp
        · exact N _ (.head _)
        rcases List.mem_cons.mp hp with rfl | hp
        · exact N _ (.tail _ (.head _))
        rcases List.mem_cons.mp hp with rfl | hp
        · exact N _ (.tail _ (.tail _ hmem))
        · exact N _ (.tail _ (.tail _ hp))
      clear N
      w_on
      w_strict k_steps
      all_goals ((rename Fr _ _ _ _ => kF); (rename News _ _ _ _ => kN))
      · rename sc = true => h1
        refine h _ _ _ kF ?_ (by first | exact back3 kN | exact back4 kN)
        rw [if_neg (fun e => by rw [h1] at e; exact absurd e.2.1 (by decide))]
        exact nm_of rfl rfl rfl rfl rfl rfl rfl rfl rfl rfl rfl rfl
      · rename List.isEmpty (Builtin.Str.occurrences (Str.ofString ":,=)") x 0 _ 1) = true => h2
        change occs nxT x = _ at h2
        refine h _ _ _ kF ?_ (by first | exact back3 kN | exact back4 kN)
        rw [if_neg (fun e => by obtain ⟨_, e, e'⟩ := e.2.2.1; cases e; rw [h2] at e'; cases e')]
        exact nm_of rfl rfl rfl rfl rfl rfl rfl rfl rfl rfl rfl rfl
      · rename List.isEmpty (Builtin.Str.occurrences (Str.ofString ":,=)") x 0 _ 1) = false => h2
        change occs nxT x = _ at h2
        rename (_ || decide (pt = Str.ofString "(")) = true => h3
        rename List.any _ _ = true => h4
        rename sc = false => h1
        refine h _ _ _ kF ?_ (by first | exact back3 kN | exact back4 kN)
        rw [if_pos ⟨(fun e => by cases e), h1, ⟨x, rfl, h2⟩, isPL.mp h3, any_hard.mp h4⟩]
        exact nm_of rfl rfl rfl rfl rfl rfl rfl rfl rfl rfl rfl rfl
      · rename List.any _ _ = false => h4
        refine h _ _ _ kF ?_ (by first | exact back3 kN | exact back4 kN)
        rw [if_neg (fun e => any_soft h4 e.2.2.2.2)]
        exact nm_of rfl rfl rfl rfl rfl rfl rfl rfl rfl rfl rfl rfl
      · rename (_ || _) = false => h3
        refine h _ _ _ kF ?_ (by first | exact back3 kN | exact back4 kN)
        rw [if_neg (fun e => noPL.mp h3 e.2.2.2.1)]
        exact nm_of rfl rfl rfl rfl rfl rfl rfl rfl rfl rfl rfl rfl
end
end Mine

end
section
open PySem PySem.W PySem.Calls PyProof.Rows
set_option Elab.async false
set_option maxRecDepth 100000
namespace Mine
theorem fillB2 : (PySem.Challenge.rw_et5026_01 = PySem.Challenge.rw_et5026_01) ∧ (∀ P, hd.heap_39 P = hd.heap_39 P) := by
  k_fill
  exact ⟨rfl, fun _ => rfl⟩
def VS.l0 (v : VS) (t : TS) : List (Str × Value) := [(Str.ofString "tokens", .ref v.tl), (Str.ofString "idents_to_avoid", .ref v.ia), (Str.ofString "prev_text", .str v.pt t.t1), (Str.ofString "prev_start", v.pv),
  (Str.ofString "func_depth", oI v.fd t.t3), (Str.ofString "seen_colon", .bool v.sc), (Str.ofString "brace_depth", .int v.bd t.t4)]
def VS.l1 (v : VS) (t : TS) : List (Str × Value) := (Str.ofString "index", .int v.ix t.t0) :: v.l0 t
def VS.l2 (v : VS) (t : TS) : List (Str × Value) := (Str.ofString "text", .str v.tx t.t2) :: (Str.ofString "start", v.sv) :: v.l1 t
def n0 (m : Str → Option Value) (v : VS) : Prop := ∃ t : TS, ∀ p ∈ v.l0 t, m p.1 = some p.2
def n1 (m : Str → Option Value) (v : VS) : Prop := ∃ t : TS, ∀ p ∈ v.l1 t, m p.1 = some p.2
def n2 (m : Str → Option Value) (v : VS) : Prop := ∃ t : TS, ∀ p ∈ v.l2 t, m p.1 = some p.2
theorem n0_of {m : Str → Option Value} {v : VS} {t1 t3 t4 : Tok} (h0 : m (Str.ofString "tokens") = some (.ref v.tl)) (h1 : m (Str.ofString "idents_to_avoid") = some (.ref v.ia)) (h3 : m (Str.ofString "prev_text") = some (.str v.pt t1)) (h4 : m (Str.ofString "prev_start") = some v.pv)
    (h7 : m (Str.ofString "func_depth") = some (oI v.fd t3)) (h8 : m (Str.ofString "seen_colon") = some (.bool v.sc)) (h9 : m (Str.ofString "brace_depth") = some (.int v.bd t4)) : n0 m v := by
  refine ⟨⟨t1, t1, t1, t3, t4, t1⟩, ?_⟩
  intro p hp
  simp only [VS.l0, List.mem_cons, List.not_mem_nil, or_false] at hp
  rcases hp with rfl | rfl | rfl | rfl | rfl | rfl | rfl <;> assumption
theorem n2_of {m : Str → Option Value} {v : VS} {t0 t1 t2 t3 t4 : Tok} (hx : m (Str.ofString "text") = some (.str v.tx t2)) (hs : m (Str.ofString "start") = some v.sv) (hi : m (Str.ofString "index") = some (.int v.ix t0)) (h0 : m (Str.ofString "tokens") = some (.ref v.tl)) (h1 : m (Str.ofString "idents_to_avoid") = some (.ref v.ia)) (h3 : m (Str.ofString "prev_text") = some (.str v.pt t1)) (h4 : m (Str.ofString "prev_start") = some v.pv)
    (h7 : m (Str.ofString "func_depth") = some (oI v.fd t3)) (h8 : m (Str.ofString "seen_colon") = some (.bool v.sc)) (h9 : m (Str.ofString "brace_depth") = some (.int v.bd t4)) : n2 m v := by
  refine ⟨⟨t0, t1, t2, t3, t4, t1⟩, ?_⟩
  intro p hp
  simp only [VS.l2, VS.l1, VS.l0, List.mem_cons, List.not_mem_nil, or_false] at hp
  rcases hp with rfl | rfl | rfl | rfl | rfl | rfl | rfl | rfl | rfl | rfl <;> assumption
local macro_rules | `(tactic| walk_at "subscriptTail") => `(tactic| (k_here; (with_reducible show wpAny _ _ (subscriptTail _ _ (Value.ref _) (Value.int _ _)) _ _ _); (rename _[_]? = some _ => kTok); k_dflt (refine' tok_sub ?ktn ?ktm ?kt0 ?ktf ?ktv ?_; (case ktn => k_asm); (case ktm => k_memK); (case kt0 => first | decide | omega); (case ktf => first | decide | omega); (case ktv => exact kTok))))
section
variable {prog : Program} {w : World} {dp un : Nat} {fr : Option (List Env)} {gd : Option (List Code)} {s : Shared} {g : Heap} {mean : ExcName → Option Value} {mg mb : Str → Option Value} {L : Addr} {m : Str → Option Value}
theorem S0 {v : VS} {a : Addr} {us : List Value} {n n5 : Nat} {news : List (Addr × Obj)} {x1 x4 x5 : Value} {t1 : Tok} {Q : Flow → Shared → Prop} {E : Value → Shared → Prop} (X : (hd.heap_39 w.params).In g) (T : Top hd.view_39 (looseW hd.view_39 []) mean mg mb g) (hdp : dp + 20 < recursionLimit) (hun : un + 250 < cLine)
    (F : Fr g L s.heap m) (hm : n1 m v) (N : News g L s.heap ((v.tl, listOf us.toArray n) :: (a, ({ cls := .type "tuple", data := .seq #[x1, .str v.tx t1, v.sv, x4, x5] n5 } : Obj)) :: news)) (h0 : 0 ≤ v.ix) (hfit : v.ix < 1100) (kTok : us[v.ix.toNat]? = some (.ref a))
    (h : ∀ h' tk' m', Fr g L h' m' → n2 m' v → News g L h' ((v.tl, listOf us.toArray n) :: (a, ({ cls := .type "tuple", data := .seq #[x1, .str v.tx t1, v.sv, x4, x5] n5 } : Obj)) :: news) → Q .next { s with heap := h', toks := tk' }) :
    wpAny (model prog w) (Ar dp un fr gd) (exec (nth aiBody 0) (aiEnv L)) Q E s := by
  dsimp only [aiBody, defAt, PySem.Challenge.pw_et5026_01, nth, fnBody, forBody, ifElse, ifThen, fnScope, aiEnv]
  have kMark := kdMark
  obtain ⟨tl, ia, ix, pt, pv, tx, sv, fd, sc, bd, idt, po⟩ := v
  obtain ⟨t, hm⟩ := hm
  rw [ov_of hm] at F
  dsimp only [VS.l1, VS.l0] at F
  clear hm
  try dsimp only at *
  w_on
  w_strict k_steps
  all_goals (rename Fr _ _ _ _ => kF); (rename News _ _ _ _ => kN)
  refine h _ _ _ kF (n2_of rfl rfl rfl rfl rfl rfl rfl rfl rfl rfl) kN
theorem S1 {v : VS} {news : List (Addr × Obj)} {Q : Flow → Shared → Prop} {E : Value → Shared → Prop} (X : (hd.heap_39 w.params).In g) (T : Top hd.view_39 (looseW hd.view_39 []) mean mg mb g) (hdp : dp + 20 < recursionLimit) (hun : un + 250 < cLine)
    (F : Fr g L s.heap m) (hm : n2 m v) (N : News g L s.heap news)
    (h : ∀ h' tk' m', Fr g L h' m' → nm m' (v.put none) → News g L h' news → Q .next { s with heap := h', toks := tk' }) :
    wpAny (model prog w) (Ar dp un fr gd) (exec (nth aiBody 1) (aiEnv L)) Q E s := by
  dsimp only [aiBody, defAt, PySem.Challenge.pw_et5026_01, nth, fnBody, forBody, ifElse, ifThen, fnScope, aiEnv]
  have kMark := kdMark
  obtain ⟨tl, ia, ix, pt, pv, tx, sv, fd, sc, bd, idt, po⟩ := v
  obtain ⟨t, hm⟩ := hm
  rw [ov_of hm] at F
  dsimp only [VS.l2, VS.l1, VS.l0] at F
  clear hm
  try dsimp only at *
  w_on
  refine wpAny_Assign_two ?_
  w_strict k_steps
  all_goals (rename Fr _ _ _ _ => kF); (rename News _ _ _ _ => kN)
  refine h _ _ _ kF (nm_of (t5 := t.t0) rfl rfl rfl rfl rfl rfl rfl rfl rfl rfl rfl rfl) kN
theorem S1011 {v : VS} {o : Option (Str × Value)} {news : List (Addr × Obj)} {Q : Flow → Shared → Prop} {E : Value → Shared → Prop} (X : (hd.heap_39 w.params).In g) (T : Top hd.view_39 (looseW hd.view_39 []) mean mg mb g) (hdp : dp + 20 < recursionLimit) (hun : un + 250 < cLine)
    (F : Fr g L s.heap m) (hm : nm m (v.put o)) (N : News g L s.heap news)
    (h : ∀ h' tk' m', Fr g L h' m' → n0 m' { v with pt := v.tx, pv := v.sv } → News g L h' news → Q .next { s with heap := h', toks := tk' }) :
    wpAny (model prog w) (Ar dp un fr gd) (execs [nth aiBody 10, nth aiBody 11] (aiEnv L)) Q E s := by
  dsimp only [aiBody, defAt, PySem.Challenge.pw_et5026_01, nth, fnBody, forBody, ifElse, ifThen, fnScope, aiEnv]
  have kMark := kdMark
  obtain ⟨tl, ia, ix, pt, pv, tx, sv, fd, sc, bd, idt, po⟩ := v
  obtain ⟨t, hm⟩ := hm
  rw [ov_of hm] at F
  dsimp only [VS.ps, VS.put] at F
  clear hm
  try dsimp only at *
  w_on
  w_strict k_steps
  all_goals (rename Fr _ _ _ _ => kF); (rename News _ _ _ _ => kN)
  refine h _ _ _ kF (n0_of rfl rfl rfl rfl rfl rfl rfl) kN
end
end Mine

end
section
open PySem PySem.W PySem.Calls PyProof.Rows
set_option Elab.async false
set_option maxRecDepth 100000
namespace Mine
theorem fillB3 : (PySem.Challenge.rw_et5026_01 = PySem.Challenge.rw_et5026_01) ∧ (∀ P, hd.heap_39 P = hd.heap_39 P) := by
  k_fill
  exact ⟨rfl, fun _ => rfl⟩
def ifTest : Stmt → Expr | .If t _ _ _ => t | _ => .Constant .none 0 default
def yieldE : Stmt → Expr | .Expr (.Yield (some e) _) _ => e | _ => .Constant .none 0 default
section
variable {prog : Program} {w : World} {dp un : Nat} {fr : Option (List Env)} {gd : Option (List Code)} {s : Shared} {g : Heap} {mean : ExcName → Option Value} {mg mb : Str → Option Value} {L : Addr} {m : Str → Option Value}
theorem T7a {v : VS} {o : Option (Str × Value)} {Q : Bool → Shared → Prop} {E : Value → Shared → Prop} (X : (hd.heap_39 w.params).In g) (T : Top hd.view_39 (looseW hd.view_39 []) mean mg mb g) (hdp : dp + 20 < recursionLimit) (hun : un + 250 < cLine)
    (F : Fr g L s.heap m) (hm : nm m (v.put o)) {news : List (Addr × Obj)} (N : News g L s.heap news) (h : ∀ b tk', (b = true ↔ v.pt = Str.ofString "class") → Q b { s with toks := tk' }) :
    wpAny (model prog w) (Ar dp un fr gd) (isTrue (ifTest (nth aiBody 7)) (aiEnv L) (eval (ifTest (nth aiBody 7)) (aiEnv L))) Q E s := by
  dsimp only [aiBody, defAt, PySem.Challenge.pw_et5026_01, nth, fnBody, forBody, ifElse, ifThen, fnScope, aiEnv, ifTest, yieldE]
  have kMark := kdMark
  obtain ⟨tl, ia, ix, pt, pv, tx, sv, fd, sc, bd, idt, po⟩ := v
  obtain ⟨t, hm⟩ := hm
  rw [ov_of hm] at F
  dsimp only [VS.ps, VS.put] at F
  clear hm
  try dsimp only at *
  w_on
  w_strict k_steps
  exact h _ _ (by simp)
theorem T7b {v : VS} {o : Option (Str × Value)} {Q : Bool → Shared → Prop} {E : Value → Shared → Prop} (X : (hd.heap_39 w.params).In g) (T : Top hd.view_39 (looseW hd.view_39 []) mean mg mb g) (hdp : dp + 20 < recursionLimit) (hun : un + 250 < cLine)
    (F : Fr g L s.heap m) (hm : nm m (v.put o)) {a b c : Tok} {news : List (Addr × Obj)} (N : News g L s.heap ((v.ia, iaO a b c) :: news)) (h : ∀ b tk', (b = true ↔ v.tx ∈ hardT) → Q b { s with toks := tk' }) :
    wpAny (model prog w) (Ar dp un fr gd) (isTrue (ifTest (nth (ifThen (nth aiBody 7)) 0)) (aiEnv L) (eval (ifTest (nth (ifThen (nth aiBody 7)) 0)) (aiEnv L))) Q E s := by
  dsimp only [aiBody, defAt, PySem.Challenge.pw_et5026_01, nth, fnBody, forBody, ifElse, ifThen, fnScope, aiEnv, ifTest, yieldE]
  have kMark := kdMark
  obtain ⟨tl, ia, ix, pt, pv, tx, sv, fd, sc, bd, idt, po⟩ := v
  obtain ⟨t, hm⟩ := hm
  rw [ov_of hm] at F
  dsimp only [VS.ps, VS.put] at F
  clear hm
  try dsimp only at *
  w_on
  w_strict k_steps
  exact h _ _ any_hard
theorem Y7 {v : VS} {o : Option (Str × Value)} {Q : Value → Shared → Prop} {E : Value → Shared → Prop} (X : (hd.heap_39 w.params).In g) (T : Top hd.view_39 (looseW hd.view_39 []) mean mg mb g) (hdp : dp + 20 < recursionLimit) (hun : un + 250 < cLine)
    (F : Fr g L s.heap m) (hm : nm m (v.put o)) {news : List (Addr × Obj)} (N : News g L s.heap news) (hl : v.tx.length ≤ 16) (h : ∀ a t n h' tk' m', (∀ p ∈ news, @LT.lt Nat _ p.1 a) → Fr g L h' m' → nm m' (v.put o) → News g L h' ((a, ({ cls := .type "tuple", data := .seq #[v.sv, .str (e742 v.tx) t] n } : Obj)) :: news) → Q (.ref a) { s with heap := h', toks := tk' }) :
    wpAny (model prog w) (Ar dp un fr gd) (eval (yieldE (nth (ifThen (nth (ifThen (nth aiBody 7)) 0)) 0)) (aiEnv L)) Q E s := by
  dsimp only [aiBody, defAt, PySem.Challenge.pw_et5026_01, nth, fnBody, forBody, ifElse, ifThen, fnScope, aiEnv, ifTest, yieldE]
  have kMark := kdMark
  obtain ⟨tl, ia, ix, pt, pv, tx, sv, fd, sc, bd, idt, po⟩ := v
  obtain ⟨t, hm⟩ := hm
  rw [ov_of hm] at F
  dsimp only [VS.ps, VS.put] at F
  clear hm
  try dsimp only at *
  w_on
  w_strict k_steps
  all_goals (rename Fr _ _ _ _ => kF); (rename News _ _ _ _ => kN)
  (rename (∀ p ∈ _, _ < _) => kL)
  exact h _ _ _ _ _ _ kL kF (nm_of (t3 := t.t3) (t5 := t.t5) rfl rfl rfl rfl rfl rfl rfl rfl rfl rfl rfl rfl) kN
theorem T8a {v : VS} {o : Option (Str × Value)} {Q : Bool → Shared → Prop} {E : Value → Shared → Prop} (X : (hd.heap_39 w.params).In g) (T : Top hd.view_39 (looseW hd.view_39 []) mean mg mb g) (hdp : dp + 20 < recursionLimit) (hun : un + 250 < cLine)
    (F : Fr g L s.heap m) (hm : nm m (v.put o)) {news : List (Addr × Obj)} (N : News g L s.heap news) (h : ∀ b tk', (b = true ↔ v.pt = Str.ofString "def") → Q b { s with toks := tk' }) :
    wpAny (model prog w) (Ar dp un fr gd) (isTrue (ifTest (nth aiBody 8)) (aiEnv L) (eval (ifTest (nth aiBody 8)) (aiEnv L))) Q E s := by
  dsimp only [aiBody, defAt, PySem.Challenge.pw_et5026_01, nth, fnBody, forBody, ifElse, ifThen, fnScope, aiEnv, ifTest, yieldE]
  have kMark := kdMark
  obtain ⟨tl, ia, ix, pt, pv, tx, sv, fd, sc, bd, idt, po⟩ := v
  obtain ⟨t, hm⟩ := hm
  rw [ov_of hm] at F
  dsimp only [VS.ps, VS.put] at F
  clear hm
  try dsimp only at *
  w_on
  w_strict k_steps
  exact h _ _ (by simp)
theorem T8b {v : VS} {o : Option (Str × Value)} {Q : Bool → Shared → Prop} {E : Value → Shared → Prop} (X : (hd.heap_39 w.params).In g) (T : Top hd.view_39 (looseW hd.view_39 []) mean mg mb g) (hdp : dp + 20 < recursionLimit) (hun : un + 250 < cLine)
    (F : Fr g L s.heap m) (hm : nm m (v.put o)) {a b c : Tok} {news : List (Addr × Obj)} (N : News g L s.heap ((v.ia, iaO a b c) :: news)) (h : ∀ b tk', (b = true ↔ v.tx ∈ hardT) → Q b { s with toks := tk' }) :
    wpAny (model prog w) (Ar dp un fr gd) (isTrue (ifTest (nth (ifThen (nth aiBody 8)) 0)) (aiEnv L) (eval (ifTest (nth (ifThen (nth aiBody 8)) 0)) (aiEnv L))) Q E s := by
  dsimp only [aiBody, defAt, PySem.Challenge.pw_et5026_01, nth, fnBody, forBody, ifElse, ifThen, fnScope, aiEnv, ifTest, yieldE]
  have kMark := kdMark
  obtain ⟨tl, ia, ix, pt, pv, tx, sv, fd, sc, bd, idt, po⟩ := v
  obtain ⟨t, hm⟩ := hm
  rw [ov_of hm] at F
  dsimp only [VS.ps, VS.put] at F
  clear hm
  try dsimp only at *
  w_on
  w_strict k_steps
  exact h _ _ any_hard
theorem Y8 {v : VS} {o : Option (Str × Value)} {Q : Value → Shared → Prop} {E : Value → Shared → Prop} (X : (hd.heap_39 w.params).In g) (T : Top hd.view_39 (looseW hd.view_39 []) mean mg mb g) (hdp : dp + 20 < recursionLimit) (hun : un + 250 < cLine)
    (F : Fr g L s.heap m) (hm : nm m (v.put o)) {news : List (Addr × Obj)} (N : News g L s.heap news) (hl : v.tx.length ≤ 16) (h : ∀ a t n h' tk' m', (∀ p ∈ news, @LT.lt Nat _ p.1 a) → Fr g L h' m' → nm m' (v.put o) → News g L h' ((a, ({ cls := .type "tuple", data := .seq #[v.sv, .str (e743 v.tx) t] n } : Obj)) :: news) → Q (.ref a) { s with heap := h', toks := tk' }) :
    wpAny (model prog w) (Ar dp un fr gd) (eval (yieldE (nth (ifThen (nth (ifThen (nth aiBody 8)) 0)) 0)) (aiEnv L)) Q E s := by
  dsimp only [aiBody, defAt, PySem.Challenge.pw_et5026_01, nth, fnBody, forBody, ifElse, ifThen, fnScope, aiEnv, ifTest, yieldE]
  have kMark := kdMark
  obtain ⟨tl, ia, ix, pt, pv, tx, sv, fd, sc, bd, idt, po⟩ := v
  obtain ⟨t, hm⟩ := hm
  rw [ov_of hm] at F
  dsimp only [VS.ps, VS.put] at F
  clear hm
  try dsimp only at *
  w_on
  w_strict k_steps
  all_goals (rename Fr _ _ _ _ => kF); (rename News _ _ _ _ => kN)
  (rename (∀ p ∈ _, _ < _) => kL)
  exact h _ _ _ _ _ _ kL kF (nm_of (t3 := t.t3) (t5 := t.t5) rfl rfl rfl rfl rfl rfl rfl rfl rfl rfl rfl rfl) kN
theorem T9n {v : VS} {o : Option (Str × Value)} {Q : Bool → Shared → Prop} {E : Value → Shared → Prop} (X : (hd.heap_39 w.params).In g) (T : Top hd.view_39 (looseW hd.view_39 []) mean mg mb g) (hdp : dp + 20 < recursionLimit) (hun : un + 250 < cLine)
    (F : Fr g L s.heap m) (hm : nm m (v.put o)) (ho : o = none) (h : ∀ tk', Q false { s with toks := tk' }) :
    wpAny (model prog w) (Ar dp un fr gd) (isTrue (ifTest (nth aiBody 9)) (aiEnv L) (eval (ifTest (nth aiBody 9)) (aiEnv L))) Q E s := by
  dsimp only [aiBody, defAt, PySem.Challenge.pw_et5026_01, nth, fnBody, forBody, ifElse, ifThen, fnScope, aiEnv, ifTest, yieldE]
  have kMark := kdMark
  obtain ⟨tl, ia, ix, pt, pv, tx, sv, fd, sc, bd, idt, po⟩ := v
  obtain ⟨t, hm⟩ := hm
  subst ho
  rw [ov_of hm] at F
  dsimp only [VS.ps, VS.put, oS, Option.map] at F
  clear hm
  try dsimp only at *
  w_on
  w_strict k_steps
  exact h _
theorem T9y {v : VS} {o : Option (Str × Value)} {Q : Bool → Shared → Prop} {E : Value → Shared → Prop} (X : (hd.heap_39 w.params).In g) (T : Top hd.view_39 (looseW hd.view_39 []) mean mg mb g) (hdp : dp + 20 < recursionLimit) (hun : un + 250 < cLine)
    (F : Fr g L s.heap m) (hm : nm m (v.put o)) {x : Str} {p : Value} (ho : o = some (x, p)) (hx : x.length = 1) (h : ∀ tk', Q true { s with toks := tk' }) :
    wpAny (model prog w) (Ar dp un fr gd) (isTrue (ifTest (nth aiBody 9)) (aiEnv L) (eval (ifTest (nth aiBody 9)) (aiEnv L))) Q E s := by
  dsimp only [aiBody, defAt, PySem.Challenge.pw_et5026_01, nth, fnBody, forBody, ifElse, ifThen, fnScope, aiEnv, ifTest, yieldE]
  have kMark := kdMark
  obtain ⟨tl, ia, ix, pt, pv, tx, sv, fd, sc, bd, idt, po⟩ := v
  obtain ⟨t, hm⟩ := hm
  subst ho
  rw [ov_of hm] at F
  dsimp only [VS.ps, VS.put, oS, Option.map] at F
  clear hm
  try dsimp only at *
  w_on
  w_strict k_steps
  have e : ((x.length : Int) != 0) = true := by rw [hx]; rfl
  rw [e]
  exact h _
theorem Y9 {v : VS} {o : Option (Str × Value)} {Q : Value → Shared → Prop} {E : Value → Shared → Prop} (X : (hd.heap_39 w.params).In g) (T : Top hd.view_39 (looseW hd.view_39 []) mean mg mb g) (hdp : dp + 20 < recursionLimit) (hun : un + 250 < cLine)
    (F : Fr g L s.heap m) (hm : nm m (v.put o)) {x : Str} {p : Value} {news : List (Addr × Obj)} (N : News g L s.heap news) (ho : o = some (x, p)) (hl : x.length ≤ 16) (h : ∀ a t n h' tk' m', (∀ p ∈ news, @LT.lt Nat _ p.1 a) → Fr g L h' m' → nm m' (v.put o) → News g L h' ((a, ({ cls := .type "tuple", data := .seq #[p, .str (e741 x) t] n } : Obj)) :: news) → Q (.ref a) { s with heap := h', toks := tk' }) :
    wpAny (model prog w) (Ar dp un fr gd) (eval (yieldE (nth (ifThen (nth aiBody 9)) 0)) (aiEnv L)) Q E s := by
  dsimp only [aiBody, defAt, PySem.Challenge.pw_et5026_01, nth, fnBody, forBody, ifElse, ifThen, fnScope, aiEnv, ifTest, yieldE]
  have kMark := kdMark
  obtain ⟨tl, ia, ix, pt, pv, tx, sv, fd, sc, bd, idt, po⟩ := v
  obtain ⟨t, hm⟩ := hm
  subst ho
  rw [ov_of hm] at F
  dsimp only [VS.ps, VS.put, oS, Option.map] at F
  clear hm
  try dsimp only at *
  w_on
  w_strict k_steps
  all_goals (rename Fr _ _ _ _ => kF); (rename News _ _ _ _ => kN)
  (rename (∀ p ∈ _, _ < _) => kL)
  exact h _ _ _ _ _ _ kL kF (nm_of (t3 := t.t3) (t5 := t.t5) rfl rfl rfl rfl rfl rfl rfl rfl rfl rfl rfl rfl) kN
end
end Mine

end
section
open PySem PySem.W PySem.Calls PyProof.Rows
set_option Elab.async false
set_option maxRecDepth 100000
namespace Mine
theorem fillB4 : (PySem.Challenge.rw_et5026_01 = PySem.Challenge.rw_et5026_01) ∧ (∀ P, hd.heap_39 P = hd.heap_39 P) := by
  k_fill
  exact ⟨rfl, fun _ => rfl⟩

def full (g : Heap) (L : Nat) (h : Heap) : List (Addr × Obj) := (List.range h.objs.size).filterMap fun b => if b = L then none else match g.get? b with | some _ => none | none => (h.get? b).map fun o => (b, o)
theorem full_mem {g h : Heap} {L b : Addr} {o : Obj} (e : h.get? b = some o) (hL : b ≠ L) (hg : g.get? b = none) : (b, o) ∈ full g L h := by
  refine List.mem_filterMap.mpr ⟨b, List.mem_range.mpr (Heap.lt_size e), ?_⟩
  rw [if_neg hL, hg, e]
  rfl
theorem full_news {g h : Heap} {L : Addr} : News g L h (full g L h) := by
  intro p hp
  obtain ⟨b, _, hb⟩ := List.mem_filterMap.mp hp
  by_cases c : b = L
  · rw [if_pos c] at hb; cases hb
  rw [if_neg c] at hb
  cases hg : g.get? b with
  | some o => rw [hg] at hb; cases hb
  | none =>
    rw [hg] at hb
    cases hh : h.get? b with
    | none => rw [hh] at hb; cases hb
    | some o => rw [hh] at hb; cases hb; exact ⟨hh, c, hg⟩
def Kept (L : Addr) (h h' : Heap) : Prop := ∀ b o, b ≠ L → h.get? b = some o → h'.get? b = some o
theorem Kept.refl {L : Addr} {h : Heap} : Kept L h h := fun _ _ _ e => e
theorem Kept.trans {L : Addr} {h h' h'' : Heap} (a : Kept L h h') (b : Kept L h' h'') : Kept L h h'' := fun x o hx e => b x o hx (a x o hx e)
theorem kept_of {g h h' : Heap} {L : Addr} {m m' : Str → Option Value} (F : Fr g L h m) (F' : Fr g L h' m') (N' : News g L h' (full g L h)) : Kept L h h' := fun b o hL e => by
  cases hg : g.get? b with
  | some o' =>
    have := F.keep b o' hg
    rw [e] at this
    cases this
    exact F'.keep b _ hg
  | none => exact (N' _ (full_mem e hL hg)).1
theorem nw_kept {g h h' : Heap} {L : Addr} {l : List (Addr × Obj)} (N : News g L h l) (k : Kept L h h') : News g L h' l := fun p hp => ⟨k _ _ (N p hp).2.1 (N p hp).1, (N p hp).2⟩
theorem nw_sub {g h : Heap} {L : Addr} {l : List (Addr × Obj)} (N : News g L h l) {p : Addr × Obj} (hp : p ∈ l) : p ∈ full g L h := full_mem (N p hp).1 (N p hp).2.1 (N p hp).2.2
theorem nw_con {g h : Heap} {L : Addr} {l : List (Addr × Obj)} (N : News g L h l) {p : Addr × Obj} (hp : p ∈ l) : News g L h (p :: l) := fun q hq => by
  rcases List.mem_cons.mp hq with rfl | hq
  · exact N _ hp
  · exact N _ hq
theorem nw_tl {g h : Heap} {L : Addr} {l : List (Addr × Obj)} {p : Addr × Obj} (N : News g L h (p :: l)) : News g L h l := fun q hq => N q (.tail _ hq)

def VS.upd (v : VS) : VS := { v with fd := fd2 v.sx, sc := sc2 v.sx v.tx, bd := bd3 v.sx v.tx }
/-- the token behind -/
def NextIs (TL : List (Addr × Obj)) (us : List Value) (ix : Int) : Option Str → Prop
  | none => ix + 1 = us.length
  | some x => ix + 1 < us.length ∧ ∃ (na : Addr) (t1 : Tok) (x1 x3 x4 x5 : Value) (n5 : Nat), us[(ix + 1).toNat]? = some (.ref na) ∧ (na, ({ cls := .type "tuple", data := .seq #[x1, .str x t1, x3, x4, x5] n5 } : Obj)) ∈ TL

section
variable {prog : Program} {w : World} {dp un : Nat} {fr : Option (List Env)} {gd : Option (List Code)} {s : Shared} {g : Heap} {mean : ExcName → Option Value} {mg mb : Str → Option Value} {L : Addr} {m : Str → Option Value}
theorem Smid {v : VS} {TL : List (Addr × Obj)} {us : List Value} {nt n5 : Nat} {a b c t1 : Tok} {ra : Addr} {x1 x4 x5 : Value} {nx : Option Str} {Q : Shared → Prop} {E : Value → Shared → Prop} (X : (hd.heap_39 w.params).In g) (T : Top hd.view_39 (looseW hd.view_39 []) mean mg mb g) (hdp : dp + 20 < recursionLimit) (hun : un + 250 < cLine)
    (F : Fr g L s.heap m) (hm : n1 m v) (N : News g L s.heap TL) (hia : (v.ia, iaO a b c) ∈ TL) (htl : (v.tl, listOf us.toArray nt) ∈ TL) (hr : (ra, ({ cls := .type "tuple", data := .seq #[x1, .str v.tx t1, v.sv, x4, x5] n5 } : Obj)) ∈ TL)
    (kTok : us[v.ix.toNat]? = some (.ref ra)) (h0 : 0 ≤ v.ix) (hle : v.ix < us.length) (hfit : us.length ≤ 1100) (hnx : NextIs TL us v.ix nx)
    (h : ∀ h' tk' m', Fr g L h' m' → nm m' (v.upd.put (id6 v.sx v.tx v.sv nx)) → Kept L s.heap h' → Q { s with heap := h', toks := tk' }) :
    wpAny (model prog w) (Ar dp un fr gd) (execs [nth aiBody 0, nth aiBody 1, nth aiBody 2, nth aiBody 3, nth aiBody 4, nth aiBody 5, nth aiBody 6] (aiEnv L)) (fun f s' => f = .next ∧ Q s') E s := by
  have NF : News g L s.heap (full g L s.heap) := full_news
  have fia := nw_sub N hia
  have ftl := nw_sub N htl
  have fr' := nw_sub N hr
  refine wpAny_execs_cons (S0 (us := us) X T hdp hun F hm (nw_con (nw_con NF fr') (.tail _ ftl)) h0 (by omega) kTok fun h1 tk1 m1 F1 hm1 N1 => ?_)
  refine wpAny_execs_cons (S1 X T hdp hun F1 hm1 (nw_tl (nw_tl N1)) fun h2 tk2 m2 F2 hm2 N2 => ?_)
  refine wpAny_execs_cons (S2 X T hdp hun F2 hm2 N2 fun h3 tk3 m3 F3 hm3 N3 => ?_)
  refine wpAny_execs_cons (S3 X T hdp hun F3 hm3 N3 fun h4 tk4 m4 F4 hm4 N4 => ?_)
  refine wpAny_execs_cons (S4 (v := v.upd) (us := us) (n := nt) X T hdp hun F4 hm4 (nw_con N4 fia) fun h5 tk5 m5 F5 hm5 N5 => ?_)
  refine wpAny_execs_cons (S5 (v := v.upd) (us := us) (n := nt) X T hdp hun F5 hm5 N5 fun h6 tk6 m6 F6 hm6 N6 => ?_)
  refine wpAny_execs_cons (S6 (v := v.upd) (us := us) (n := nt) (nt := nt) (kd := nt) (ln := nt) X T hdp hun F6 hm6 (nw_con (nw_con (nw_tl N6) ftl) (.tail _ fia)) h0 hle hfit nx ?_ fun h7 tk7 m7 F7 hm7 N7 => ?_)
  · cases nx with
    | none => exact hnx
    | some x =>
      obtain ⟨e1, na, t1, y1, y3, y4, y5, n9, e2, e3⟩ := hnx
      exact ⟨e1, na, t1, y1, y3, y4, y5, n9, e2, nw_sub N e3⟩
  · exact wpAny_pure ⟨rfl, h _ _ _ F7 hm7 (kept_of F F7 (nw_tl (nw_tl N7)))⟩
end
end Mine

end
section
open PySem PySem.W PySem.Calls PyProof.Rows
set_option Elab.async false
set_option maxRecDepth 100000
namespace Mine
theorem fillB5 : (PySem.Challenge.rw_et5026_01 = PySem.Challenge.rw_et5026_01) ∧ (∀ P, hd.heap_39 P = hd.heap_39 P) := by
  k_fill
  exact ⟨rfl, fun _ => rfl⟩
def forIter : Stmt → Expr | .For _ i _ _ _ => i | _ => .Constant .none 0 default
local macro_rules | `(tactic| walk_at "call builtin:len") => `(tactic| (k_here; (with_reducible show wpAny _ _ (call (Value.builtin "len") [Value.ref _]) _ _ _); k_dflt (refine' tok_len ?ktn ?ktm ?ktf ?_; (case ktn => k_asm); (case ktm => k_memK); (case ktf => assumption))))
local macro_rules | `(tactic| walk_at "subscriptTail") => `(tactic| (k_here; (with_reducible show wpAny _ _ (subscriptTail _ _ (Value.ref _) (Value.int _ _)) _ _ _); (rename _[_]? = some _ => kTok); k_dflt (refine' tok_sub ?ktn ?ktm ?kt0 ?ktf ?ktv ?_; (case ktn => k_asm); (case ktm => k_memK); (case kt0 => first | decide | omega); (case ktf => first | decide | omega); (case ktv => exact kTok))))
section
variable {prog : Program} {w : World} {dp un : Nat} {fr : Option (List Env)} {gd : Option (List Code)} {s : Shared} {g : Heap} {mean : ExcName → Option Value} {mg mb : Str → Option Value} {L : Addr} {m : Str → Option Value}
abbrev aiS (k : Nat) : Stmt := nth (fnBody (defAt 1)) k
theorem Sinit {tl ra : Addr} {us : List Value} {n n5 : Nat} {news : List (Addr × Obj)} {x1 x4 x5 sv : Value} {tx : Str} {t1 : Tok} {Q : Shared → Prop} {E : Value → Shared → Prop} (X : (hd.heap_39 w.params).In g) (T : Top hd.view_39 (looseW hd.view_39 []) mean mg mb g) (hdp : dp + 20 < recursionLimit) (hun : un + 250 < cLine)
    (F : Fr g L s.heap m) (hm : ∀ p ∈ ([(Str.ofString "tokens", .ref tl)] : List (Str × Value)), m p.1 = some p.2) (N : News g L s.heap ((tl, listOf us.toArray n) :: (ra, ({ cls := .type "tuple", data := .seq #[x1, .str tx t1, sv, x4, x5] n5 } : Obj)) :: news)) (kTok : us[(0 : Int).toNat]? = some (.ref ra))
    (h : ∀ h' tk' m' ia a b c, Fr g L h' m' → n0 m' ⟨tl, ia, 0, tx, sv, tx, sv, none, false, 0, none, .none⟩ → News g L h' ((ia, iaO a b c) :: news) → Q { s with heap := h', toks := tk' }) :
    wpAny (model prog w) (Ar dp un fr gd) (execs [aiS 0, aiS 1, aiS 2, aiS 3, aiS 4] (aiEnv L)) (fun f s' => f = .next ∧ Q s') E s := by
  dsimp only [aiS, aiBody, defAt, PySem.Challenge.pw_et5026_01, nth, fnBody, forBody, ifElse, ifThen, fnScope, aiEnv, ifTest, yieldE, forIter]
  have kMark := kdMark
  rw [ov_of hm] at F
  clear hm
  w_on
  w_strict k_steps
  all_goals (rename Fr _ _ _ _ => kF); (rename News _ _ _ _ => kN)
  refine h _ _ _ _ _ _ _ kF (n0_of (t3 := t1) rfl rfl rfl rfl rfl rfl rfl) (fun p hp => by
    rcases List.mem_cons.mp hp with rfl | hp
    · exact kN _ (.head _)
    · exact kN _ (.tail _ (.tail _ (.tail _ hp))))
theorem Riter {v : VS} {us : List Value} {n : Nat} {news : List (Addr × Obj)} {Q : Value → Shared → Prop} {E : Value → Shared → Prop} (X : (hd.heap_39 w.params).In g) (T : Top hd.view_39 (looseW hd.view_39 []) mean mg mb g) (hdp : dp + 20 < recursionLimit) (hun : un + 250 < cLine)
    (F : Fr g L s.heap m) (hm : n0 m v) (N : News g L s.heap ((v.tl, listOf us.toArray n) :: news)) (hfit : us.length ≤ 1100) (hpos : 1 ≤ us.length)
    (h : ∀ r t u w h' tk' m', Fr g L h' m' → n0 m' v → News g L h' news → IsRange h' r 1 us.length 1 t u w → Q (.ref r) { s with heap := h', toks := tk' }) :
    wpAny (model prog w) (Ar dp un fr gd) (eval (forIter (aiS 5)) (aiEnv L)) Q E s := by
  dsimp only [aiS, aiBody, defAt, PySem.Challenge.pw_et5026_01, nth, fnBody, forBody, ifElse, ifThen, fnScope, aiEnv, ifTest, yieldE, forIter]
  have kMark := kdMark
  obtain ⟨tl, ia, ix, pt, pv, tx, sv, fd, sc, bd, idt, po⟩ := v
  obtain ⟨t, hm⟩ := hm
  rw [ov_of hm] at F
  dsimp only [VS.l0] at F
  clear hm
  try dsimp only at *
  w_on
  w_strict k_steps
  all_goals (rename Fr _ _ _ _ => kF); (rename News _ _ _ _ => kN)
  rename IsRange _ _ _ _ _ _ _ _ => kR
  exact h _ _ _ _ _ _ _ kF (n0_of (t3 := t.t3) rfl rfl rfl rfl rfl rfl rfl) (fun p hp => kN p (.tail _ hp)) kR
end
end Mine

end
section
open PySem PySem.W PySem.Calls PyProof.Rows
set_option Elab.async false
set_option maxRecDepth 100000
namespace Mine
theorem fillB6 : (PySem.Challenge.rw_et5026_01 = PySem.Challenge.rw_et5026_01) ∧ (∀ P, hd.heap_39 P = hd.heap_39 P) := by
  k_fill
  exact ⟨rfl, fun _ => rfl⟩
theorem over_func {dp un : Nat} {fr : Option (List Env)} {gd : Option (List Code)} {b : List Stmt} {env : Env} : ∃ dp' un' fr' gd', (Ar dp un fr gd).over (.func b env) [] = Ar dp' un' fr' gd' ∧ dp' ≤ dp + 8 ∧ un' ≤ un + 30 :=
  ⟨_, _, _, _, rfl, (by show dp + 0 + 1 ≤ dp + 8; omega), (by show un + 0 + 3 ≤ un + 30; omega)⟩
theorem over_loop {dp un : Nat} {fr : Option (List Env)} {gd : Option (List Code)} {b bd o : List Stmt} {env env' : Env} {t : Expr} {it : Value} {k : Result → Sem Fin} {l : List Value} {p : Pos} : ∃ dp' un' fr' gd', (Ar dp un fr gd).over (.forLoop t it bd o env') [.ret k none false l (.func b env) p []] = Ar dp' un' fr' gd' ∧ dp' ≤ dp + 8 ∧ un' ≤ un + 30 :=
  ⟨_, _, _, _, rfl, (by show dp + (1 + 0) + 0 ≤ dp + 8; omega), (by show un + (3 + 0) + 0 ≤ un + 30; omega)⟩

structure Rec where
  tk : Tk
  a : Addr
  sv : Value
def RecOk (TL : List (Addr × Obj)) (r : Rec) : Prop := ∃ (x1 x4 x5 : Value) (t1 : Tok) (n5 : Nat), (r.a, ({ cls := .type "tuple", data := .seq #[x1, .str r.tk.text t1, r.sv, x4, x5] n5 } : Obj)) ∈ TL ∧ DatIn TL r.sv (.tuple [.int 1, .int r.tk.b])
def vsOf (tl ia : Addr) (sx : SX Rec) (ix : Int) (r : Rec) : VS := ⟨tl, ia, ix, sx.pt, sx.pv.sv, r.tk.text, r.sv, sx.fd, sx.sc, sx.bd, none, .none⟩
def Kp (L S : Nat) (h h' : Heap) : Prop := ∀ (b : Nat) o, b ≠ L → (b < S ∨ o.cls ≠ .type "range_iterator") → h.get? b = some o → h'.get? b = some o
def KS (L S : Nat) (h h' : Heap) : Prop := ∀ (b : Nat) o, b ≠ L → b ≠ S → h.get? b = some o → h'.get? b = some o
def Lst (S : Addr) (h : Heap) : Prop := ∃ o, h.get? S = some o ∧ o.cls = .type "list"
def Since (L S : Addr) (s₀ s : Shared) : Prop := (∃ h tk, s = { s₀ with heap := h, toks := tk }) ∧ Kp L S s₀.heap s.heap
def Handed (L S : Nat) (TL : List (Addr × Obj)) (d : Rec × Str) (v : Value) (h : Heap) : Prop := ∃ own : List (Addr × Obj), DatIn own v (place d.1.tk.b d.2) ∧ ∀ p ∈ own, h.get? p.1 = some p.2 ∧ @Ne Nat p.1 L ∧ @Ne Nat p.1 S ∧ (p ∈ TL ∨ (@LT.lt Nat _ S p.1 ∧ p.2.cls ≠ .type "range_iterator"))
def yP (L S : Addr) (TL : List (Addr × Obj)) (D : List (Rec × Str)) : Protocol := fun m s₀ v s kap => (∃ d, D[D.length - 1 - m]? = some d ∧ Handed L S TL d v s.heap) ∧ Since L S s₀ s ∧ Lst S s.heap ∧
  ∀ s'' : Shared, (∀ b o, b ≠ S → s.heap.get? b = some o → s''.heap.get? b = some o) → Lst S s''.heap → kap (.send .none) s''
abbrev rE (L S : Addr) : GenEnd := fun n s₀ r s => r = .ok (.ret .none) ∧ (n = 0 ∧ Since L S s₀ s)

theorem Since.refl {L S : Addr} {s : Shared} : Since L S s s := ⟨⟨s.heap, s.toks, rfl⟩, fun _ _ _ _ e => e⟩
theorem Since.step {L S : Addr} {s₀ s : Shared} (x : Since L S s₀ s) {h' : Heap} {tk : Nat} (k : Kp L S s.heap h') : Since L S s₀ { s with heap := h', toks := tk } := by
  obtain ⟨⟨h, t, rfl⟩, k0⟩ := x
  exact ⟨⟨h', tk, rfl⟩, fun b o h1 h2 e => k b o h1 h2 (k0 b o h1 h2 e)⟩
theorem Kept.kp {L S : Addr} {h h' : Heap} (k : Kept L h h') : Kp L S h h' := fun b o h1 _ e => k b o h1 e
theorem Kept.ks {L S : Addr} {h h' : Heap} (k : Kept L h h') : KS L S h h' := fun b o h1 _ e => k b o h1 e
theorem KS.trans {L S : Addr} {h h' h'' : Heap} (a : KS L S h h') (b : KS L S h' h'') : KS L S h h'' := fun x o h1 h2 e => b x o h1 h2 (a x o h1 h2 e)
theorem KS.refl {L S : Addr} {h : Heap} : KS L S h h := fun _ _ _ _ e => e
theorem Kept.lst {L S : Addr} {h h' : Heap} (k : Kept L h h') (hS : S ≠ L) (l : Lst S h) : Lst S h' := let ⟨o, e, c⟩ := l; ⟨o, k _ _ hS e, c⟩

structure GC (prog : Program) (w : World) (g : Heap) (L S tl : Nat) (TL : List (Addr × Obj)) (us : List Value) (nt : Nat) (mean : ExcName → Option Value) (mg mb : Str → Option Value) : Prop where
  X : (hd.heap_39 w.params).In g
  T : Top hd.view_39 (looseW hd.view_39 []) mean mg mb g
  SL : S ≠ L
  gS : g.get? S = none
  tls : ∀ p ∈ TL, @LT.lt Nat _ p.1 S
  htl : (tl, listOf us.toArray nt) ∈ TL
  fit : us.length ≤ 1100

theorem handed_of {g h : Heap} {L S a : Addr} {TL : List (Addr × Obj)} {r : Rec} {msg : Str} {sv : Value} {t : Tok} {n : Nat} (N : News g L h TL) (tls : ∀ p ∈ TL, @LT.lt Nat _ p.1 S) (hd : DatIn TL sv (.tuple [.int 1, .int r.tk.b]))
    (ha : h.get? a = some ({ cls := .type "tuple", data := .seq #[sv, .str msg t] n } : Obj)) (hL : a ≠ L) (hSa : @LT.lt Nat _ S a) : Handed L S TL (r, msg) (.ref a) h := by
  refine ⟨(a, { cls := .type "tuple", data := .seq #[sv, .str msg t] n }) :: TL, DatIn.tuple (vs := [sv, .str msg t]) (.head _) (.cons (DatIn.mono (fun p hp => .tail _ hp) hd) (.cons (.str _ _) .nil)), fun p hp => ?_⟩
  rcases List.mem_cons.mp hp with rfl | hp
  · exact ⟨ha, hL, Nat.ne_of_gt hSa, .inr ⟨hSa, (by show (Value.type "tuple") ≠ Value.type "range_iterator"; decide)⟩⟩
  · exact ⟨(N _ hp).1, (N _ hp).2.1, Nat.ne_of_lt (tls p hp), .inl hp⟩

theorem n1_ks {m : Str → Option Value} {g h h' : Heap} {L S : Addr} (F : Fr g L h m) (hS : S ≠ L) (gS : g.get? S = none) (k : ∀ b o, b ≠ S → h.get? b = some o → h'.get? b = some o) : Fr g L h' m := by
  obtain ⟨oL, es, ep, hL, r⟩ := F.ns
  refine ⟨⟨oL, es, ep, k _ _ (Ne.symm hS) hL, r⟩, fun b o e => k _ _ (fun c => ?_) (F.keep b o e), F.above⟩
  rw [c, gS] at e
  cases e
theorem at_len {D pre r : List (Rec × Str)} {d : Rec × Str} (h : D = pre ++ d :: r) : D[D.length - 1 - r.length]? = some d := by
  subst h
  have : (pre ++ d :: r).length - 1 - r.length = pre.length := by rw [List.length_append, List.length_cons]; omega
  rw [this, List.getElem?_append_right (Nat.le_refl _), Nat.sub_self]
  rfl
end Mine

end
section
open PySem PySem.W PySem.Calls PyProof.Rows
set_option Elab.async false
set_option maxRecDepth 100000
namespace Mine
theorem fillB7 : (PySem.Challenge.rw_et5026_01 = PySem.Challenge.rw_et5026_01) ∧ (∀ P, hd.heap_39 P = hd.heap_39 P) := by
  k_fill
  exact ⟨rfl, fun _ => rfl⟩
structure Mid (g : Heap) (L S : Addr) (v : VS) (TL : List (Addr × Obj)) (h : Heap) : Prop where
  F : ∃ m, Fr g L h m ∧ nm m v
  N : News g L h TL
  l : Lst S h
theorem nw_ks {g h h' : Heap} {L S : Addr} {l : List (Addr × Obj)} (N : News g L h l) (hS : ∀ p ∈ l, p.1 ≠ S) (k : KS L S h h') : News g L h' l := fun p hp => ⟨k _ _ (N p hp).2.1 (hS p hp) (N p hp).1, (N p hp).2⟩

section
variable {prog : Program} {w : World} {dp un dp' un' : Nat} {fr fr' : Option (List Env)} {gd gd' : Option (List Code)} {s s₀ : Shared} {g : Heap} {mean : ExcName → Option Value} {mg mb : Str → Option Value} {L S tl ia : Addr} {TL TLi : List (Addr × Obj)} {us : List Value} {nt : Nat}
  {c : Code} {fs : List Frame} {K : Flow → Sem Fin} {H : Value → Sem Fin} {D pre more : List (Rec × Str)}
theorem seg_tell (G : GC prog w g L S tl TL us nt mean mg mb) (hA : (Ar dp un fr gd).over c fs = Ar dp' un' fr' gd') (hfs : splitAtGen fs = none) (hfg : fs.any Frame.guarded = false)
    {v : VS} {o : Option (Str × Value)} {y : Expr} {yp p : Pos} {r : Rec} {msg : Str} {sv : Value} (hsub : ∀ p ∈ TL, p ∈ TLi) (hiS : ∀ p ∈ TLi, p.1 ≠ S)
    (M0 : Mid g L S (v.put o) TLi s.heap) (hd : DatIn TL sv (.tuple [.int 1, .int r.tk.b]))
    (hY : ∀ (Q : Value → Shared → Prop) m, Fr g L s.heap m → nm m (v.put o) → (∀ a t n h' tk' m', (∀ p ∈ full g L s.heap, @LT.lt Nat _ p.1 a) → Fr g L h' m' → nm m' (v.put o) → News g L h' ((a, ({ cls := .type "tuple", data := .seq #[sv, .str msg t] n } : Obj)) :: full g L s.heap) → Q (.ref a) { s with heap := h', toks := tk' }) →
      wpAny (model prog w) (Ar dp' un' fr' gd') (eval y (aiEnv L)) Q (fun _ _ => False) s)
    (hD : D = pre ++ (r, msg) :: more) (hs : Since L S s₀ s)
    (hnext : ∀ s', KS L S s.heap s'.heap → Mid g L S (v.put o) TLi s'.heap → Seg (model prog w) (Ar dp un fr gd) (rE L S) (yP L S TL D) more.length s' c (K .next) fs s') :
    Seg (model prog w) (Ar dp un fr gd) (rE L S) (yP L S TL D) (more.length + 1) s₀ c ((exec (.Expr (.Yield (some y) yp) p) (aiEnv L)).wrap K H id id) fs s := by
  obtain ⟨⟨m, F, hm⟩, N, l⟩ := M0
  refine seg_Expr_Yield hfs rfl hfg ?_
  rw [hA]
  refine wpAny_mono (hY (fun v s' => ∀ kap : Resume → Shared → Prop, (∀ x s'', (match x with | .ref _ => False | _ => Seg (model prog w) (Ar dp un fr gd) (rE L S) (yP L S TL D) more.length s'' c (K .next) fs s'') → kap (.send x) s'') → yP L S TL D more.length s₀ v s' kap) m F hm fun a t n h' tk' m' lt' F' hm' N' => ?_) (fun _ _ x => x) (fun _ _ x => x.elim)
  intro kap hk
  have kp : Kept L s.heap h' := kept_of F F' (nw_tl N')
  have l' : Lst S h' := kp.lst G.SL l
  have NT : News g L h' TL := fun p hp => nw_kept N kp p (hsub p hp)
  have N0 := N' _ (.head _)
  refine ⟨⟨(r, msg), at_len hD, handed_of NT G.tls hd N0.1 N0.2.1 (let ⟨_, e, _⟩ := l; lt' _ (full_mem e G.SL G.gS))⟩, hs.step kp.kp, l', fun s'' hk2 l'' => hk .none s'' ?_⟩
  exact hnext s'' (KS.trans kp.ks (fun b o _ hb e => hk2 b o hb e)) ⟨⟨m', n1_ks F' G.SL G.gS hk2, hm'⟩, nw_ks N hiS (KS.trans kp.ks (fun b o _ hb e => hk2 b o hb e)), l''⟩

theorem seg_st7 (G : GC prog w g L S tl TL us nt mean mg mb) (hA : (Ar dp un fr gd).over c fs = Ar dp' un' fr' gd') (hdp : dp' + 20 < recursionLimit) (hun : un' + 250 < cLine) (hfs : splitAtGen fs = none) (hfg : fs.any Frame.guarded = false)
    {sx : SX Rec} {r : Rec} {ix : Int} {o : Option (Str × Value)} {ca cb cc : Tok} (hsub : ∀ p ∈ TL, p ∈ TLi) (hiS : ∀ p ∈ TLi, p.1 ≠ S) (hia : (ia, iaO ca cb cc) ∈ TLi)
    (M0 : Mid g L S ((vsOf tl ia sx ix r).upd.put o) TLi s.heap) (hr : RecOk TL r) (hD : D = pre ++ (tellC sx r.tk.text r ++ more)) (hs : Since L S s₀ s)
    (hnext : ∀ s₀' s', KS L S s.heap s'.heap → Mid g L S ((vsOf tl ia sx ix r).upd.put o) TLi s'.heap → Since L S s₀' s' → Seg (model prog w) (Ar dp un fr gd) (rE L S) (yP L S TL D) more.length s₀' c (K .next) fs s') :
    Seg (model prog w) (Ar dp un fr gd) (rE L S) (yP L S TL D) (tellC sx r.tk.text r ++ more).length s₀ c ((exec (nth aiBody 7) (aiEnv L)).wrap K H id id) fs s := by
  obtain ⟨yp, p1, p2, p3, e⟩ : ∃ yp p1 p2 p3, nth aiBody 7 = .If (ifTest (nth aiBody 7)) [.If (ifTest (nth (ifThen (nth aiBody 7)) 0)) [.Expr (.Yield (some (yieldE (nth (ifThen (nth (ifThen (nth aiBody 7)) 0)) 0))) yp) p3] [] p2] [] p1 := ⟨_, _, _, _, rfl⟩
  rw [e]
  obtain ⟨⟨m, F, hm⟩, N, l⟩ := M0
  refine seg_If ?_
  rw [hA]
  refine T7a (v := (vsOf tl ia sx ix r).upd) (o := o) G.X G.T hdp hun F hm (news := []) (fun _ h => nomatch h) fun b tk hb => ?_
  cases b with
  | false =>
    have e0 : tellC sx r.tk.text r = [] := if_neg (fun h => by have := hb.mpr h.1; cases this)
    rw [if_neg Bool.false_ne_true, e0]
    exact hnext s₀ _ KS.refl ⟨⟨m, F, hm⟩, N, l⟩ (hs.step (h' := s.heap) fun _ _ _ _ e => e)
  | true =>
    rw [if_pos rfl]
    refine seg_execs_cons (seg_If ?_)
    rw [hA]
    refine T7b (v := (vsOf tl ia sx ix r).upd) (o := o) (news := []) G.X G.T hdp hun F hm (a := ca) (b := cb) (c := cc) (fun p hp => by rw [List.mem_singleton.mp hp]; exact N _ hia) fun b2 tk2 hb2 => ?_
    cases b2 with
    | false =>
      have e0 : tellC sx r.tk.text r = [] := if_neg (fun h => by have := hb2.mpr h.2; cases this)
      rw [if_neg Bool.false_ne_true, e0]
      exact hnext s₀ _ KS.refl ⟨⟨m, F, hm⟩, N, l⟩ (hs.step (h' := s.heap) fun _ _ _ _ e => e)
    | true =>
      have hh : r.tk.text ∈ hardT := hb2.mp rfl
      have e0 : tellC sx r.tk.text r = [(r, e742 r.tk.text)] := if_pos ⟨hb.mp rfl, hh⟩
      rw [if_pos rfl, e0]
      rw [e0] at hD
      obtain ⟨x1, x4, x5, t1, n5, hmem, hdat⟩ := hr
      refine seg_execs_cons (seg_tell (pre := pre) (more := more) (r := r) (msg := e742 r.tk.text) (sv := r.sv) (v := (vsOf tl ia sx ix r).upd) (o := o) G hA hfs hfg hsub hiS ⟨⟨m, F, hm⟩, N, l⟩ hdat (fun Q m2 F2 hm2 hQ => ?_) hD (hs.step (h' := s.heap) fun _ _ _ _ e => e) fun s' k' M' => ?_)
      · exact Y7 (v := (vsOf tl ia sx ix r).upd) (o := o) G.X G.T hdp hun F2 hm2 full_news (by
          have : ∀ x ∈ hardT, x.length ≤ 16 := by decide +kernel
          exact this _ hh) hQ
      · exact hnext s' s' k' M' Since.refl
theorem seg_st8 (G : GC prog w g L S tl TL us nt mean mg mb) (hA : (Ar dp un fr gd).over c fs = Ar dp' un' fr' gd') (hdp : dp' + 20 < recursionLimit) (hun : un' + 250 < cLine) (hfs : splitAtGen fs = none) (hfg : fs.any Frame.guarded = false)
    {sx : SX Rec} {r : Rec} {ix : Int} {o : Option (Str × Value)} {ca cb cc : Tok} (hsub : ∀ p ∈ TL, p ∈ TLi) (hiS : ∀ p ∈ TLi, p.1 ≠ S) (hia : (ia, iaO ca cb cc) ∈ TLi)
    (M0 : Mid g L S ((vsOf tl ia sx ix r).upd.put o) TLi s.heap) (hr : RecOk TL r) (hD : D = pre ++ (tellD sx r.tk.text r ++ more)) (hs : Since L S s₀ s)
    (hnext : ∀ s₀' s', KS L S s.heap s'.heap → Mid g L S ((vsOf tl ia sx ix r).upd.put o) TLi s'.heap → Since L S s₀' s' → Seg (model prog w) (Ar dp un fr gd) (rE L S) (yP L S TL D) more.length s₀' c (K .next) fs s') :
    Seg (model prog w) (Ar dp un fr gd) (rE L S) (yP L S TL D) (tellD sx r.tk.text r ++ more).length s₀ c ((exec (nth aiBody 8) (aiEnv L)).wrap K H id id) fs s := by
  obtain ⟨yp, p1, p2, p3, e⟩ : ∃ yp p1 p2 p3, nth aiBody 8 = .If (ifTest (nth aiBody 8)) [.If (ifTest (nth (ifThen (nth aiBody 8)) 0)) [.Expr (.Yield (some (yieldE (nth (ifThen (nth (ifThen (nth aiBody 8)) 0)) 0))) yp) p3] [] p2] [] p1 := ⟨_, _, _, _, rfl⟩
  rw [e]
  obtain ⟨⟨m, F, hm⟩, N, l⟩ := M0
  refine seg_If ?_
  rw [hA]
  refine T8a (v := (vsOf tl ia sx ix r).upd) (o := o) G.X G.T hdp hun F hm (news := []) (fun _ h => nomatch h) fun b tk hb => ?_
  cases b with
  | false =>
    have e0 : tellD sx r.tk.text r = [] := if_neg (fun h => by have := hb.mpr h.1; cases this)
    rw [if_neg Bool.false_ne_true, e0]
    exact hnext s₀ _ KS.refl ⟨⟨m, F, hm⟩, N, l⟩ (hs.step (h' := s.heap) fun _ _ _ _ e => e)
  | true =>
    rw [if_pos rfl]
    refine seg_execs_cons (seg_If ?_)
    rw [hA]
    refine T8b (v := (vsOf tl ia sx ix r).upd) (o := o) (news := []) G.X G.T hdp hun F hm (a := ca) (b := cb) (c := cc) (fun p hp => by rw [List.mem_singleton.mp hp]; exact N _ hia) fun b2 tk2 hb2 => ?_
    cases b2 with
    | false =>
      have e0 : tellD sx r.tk.text r = [] := if_neg (fun h => by have := hb2.mpr h.2; cases this)
      rw [if_neg Bool.false_ne_true, e0]
      exact hnext s₀ _ KS.refl ⟨⟨m, F, hm⟩, N, l⟩ (hs.step (h' := s.heap) fun _ _ _ _ e => e)
    | true =>
      have hh : r.tk.text ∈ hardT := hb2.mp rfl
      have e0 : tellD sx r.tk.text r = [(r, e743 r.tk.text)] := if_pos ⟨hb.mp rfl, hh⟩
      rw [if_pos rfl, e0]
      rw [e0] at hD
      obtain ⟨x1, x4, x5, t1, n5, hmem, hdat⟩ := hr
      refine seg_execs_cons (seg_tell (pre := pre) (more := more) (r := r) (msg := e743 r.tk.text) (sv := r.sv) (v := (vsOf tl ia sx ix r).upd) (o := o) G hA hfs hfg hsub hiS ⟨⟨m, F, hm⟩, N, l⟩ hdat (fun Q m2 F2 hm2 hQ => ?_) hD (hs.step (h' := s.heap) fun _ _ _ _ e => e) fun s' k' M' => ?_)
      · exact Y8 (v := (vsOf tl ia sx ix r).upd) (o := o) G.X G.T hdp hun F2 hm2 full_news (by
          have : ∀ x ∈ hardT, x.length ≤ 16 := by decide +kernel
          exact this _ hh) hQ
      · exact hnext s' s' k' M' Since.refl

theorem id6_pos {α : Type} {v : SX α} {tx : Str} {sv : α} {nx : Option Str} {x : Str} {p : α} (h : id6 v tx sv nx = some (x, p)) : p = sv ∨ p = v.pv := by
  unfold id6 at h
  split at h
  · cases h; exact .inl rfl
  · unfold id5 at h
    split at h
    · cases h; exact .inl rfl
    · unfold id4 at h
      split at h
      · cases h; exact .inr rfl
      · cases h
theorem seg_st9 (G : GC prog w g L S tl TL us nt mean mg mb) (hA : (Ar dp un fr gd).over c fs = Ar dp' un' fr' gd') (hdp : dp' + 20 < recursionLimit) (hun : un' + 250 < cLine) (hfs : splitAtGen fs = none) (hfg : fs.any Frame.guarded = false)
    {sx : SX Rec} {r : Rec} {ix : Int} {nx : Option Str} (hsub : ∀ p ∈ TL, p ∈ TLi) (hiS : ∀ p ∈ TLi, p.1 ≠ S)
    (M0 : Mid g L S ((vsOf tl ia sx ix r).upd.put (id6 (vsOf tl ia sx ix r).sx r.tk.text r.sv nx)) TLi s.heap) (hr : RecOk TL r) (hpv : RecOk TL sx.pv) (hD : D = pre ++ (tellI sx r.tk.text r nx ++ more)) (hs : Since L S s₀ s)
    (hnext : ∀ s₀' s', KS L S s.heap s'.heap → Mid g L S ((vsOf tl ia sx ix r).upd.put (id6 (vsOf tl ia sx ix r).sx r.tk.text r.sv nx)) TLi s'.heap → Since L S s₀' s' → Seg (model prog w) (Ar dp un fr gd) (rE L S) (yP L S TL D) more.length s₀' c (K .next) fs s') :
    Seg (model prog w) (Ar dp un fr gd) (rE L S) (yP L S TL D) (tellI sx r.tk.text r nx ++ more).length s₀ c ((exec (nth aiBody 9) (aiEnv L)).wrap K H id id) fs s := by
  obtain ⟨yp, p1, p3, e⟩ : ∃ yp p1 p3, nth aiBody 9 = .If (ifTest (nth aiBody 9)) [.Expr (.Yield (some (yieldE (nth (ifThen (nth aiBody 9)) 0))) yp) p3] [] p1 := ⟨_, _, _, rfl⟩
  rw [e]
  have hmap : id6 (vsOf tl ia sx ix r).sx r.tk.text r.sv nx = (id6 sx r.tk.text r nx).map fun p => (p.1, p.2.sv) := id6_map (fun r : Rec => r.sv) sx r.tk.text r nx
  rw [hmap] at M0 hnext
  obtain ⟨⟨m, F, hm⟩, N, l⟩ := M0
  refine seg_If ?_
  rw [hA]
  unfold tellI at hD ⊢
  cases h6 : id6 sx r.tk.text r nx with
  | none =>
    rw [h6] at hm hnext hD
    refine T9n (v := (vsOf tl ia sx ix r).upd) G.X G.T hdp hun F hm rfl fun tk => ?_
    rw [if_neg Bool.false_ne_true]
    exact hnext s₀ _ KS.refl ⟨⟨m, F, hm⟩, N, l⟩ (hs.step (h' := s.heap) fun _ _ _ _ e => e)
  | some xp =>
    obtain ⟨x, p⟩ := xp
    rw [h6] at hm hnext hD
    have hh : x ∈ hardT := id6_hard h6
    have h1 : x.length = 1 := by
      have : ∀ x ∈ hardT, x.length = 1 := by decide +kernel
      exact this _ hh
    refine T9y (v := (vsOf tl ia sx ix r).upd) (x := x) (p := p.sv) G.X G.T hdp hun F hm rfl h1 fun tk => ?_
    rw [if_pos rfl]
    have hp : RecOk TL p := by
      rcases id6_pos h6 with rfl | rfl
      · exact hr
      · exact hpv
    obtain ⟨x1, x4, x5, t1, n5, hmem, hdat⟩ := hp
    refine seg_execs_cons (seg_tell (pre := pre) (more := more) (r := p) (msg := e741 x) (sv := p.sv) (v := (vsOf tl ia sx ix r).upd) (o := some (x, p.sv)) G hA hfs hfg hsub hiS ⟨⟨m, F, hm⟩, N, l⟩ hdat (fun Q m2 F2 hm2 hQ => ?_) hD (hs.step (h' := s.heap) fun _ _ _ _ e => e) fun s' k' M' => ?_)
    · exact Y9 (v := (vsOf tl ia sx ix r).upd) G.X G.T hdp hun F2 hm2 full_news rfl (by omega) hQ
    · exact hnext s' s' k' M' Since.refl

theorem seg_turn (G : GC prog w g L S tl TL us nt mean mg mb) (hA : (Ar dp un fr gd).over c fs = Ar dp' un' fr' gd') (hdp : dp' + 20 < recursionLimit) (hun : un' + 250 < cLine) (hfs : splitAtGen fs = none) (hfg : fs.any Frame.guarded = false)
    {sx : SX Rec} {r : Rec} {ix : Int} {nx : Option Str} {ca cb cc : Tok} {m : Str → Option Value} (hsub : ∀ p ∈ TL, p ∈ TLi) (hiS : ∀ p ∈ TLi, p.1 ≠ S) (hia : (ia, iaO ca cb cc) ∈ TLi)
    (F : Fr g L s.heap m) (hm : n1 m (vsOf tl ia sx ix r)) (N : News g L s.heap TLi) (l : Lst S s.heap) (hr : RecOk TL r) (hpv : RecOk TL sx.pv)
    (kTok : us[ix.toNat]? = some (.ref r.a)) (h0 : 0 ≤ ix) (hle : ix < us.length) (hnx : NextIs TL us ix nx)
    (hD : D = pre ++ (tells sx r.tk.text r nx ++ more)) (hs : Since L S s₀ s)
    (hnext : ∀ s₀' s' m', KS L S s.heap s'.heap → Fr g L s'.heap m' → n0 m' (vsOf tl ia (next sx r.tk.text r) ix r) → News g L s'.heap TLi → Lst S s'.heap → Since L S s₀' s' → Seg (model prog w) (Ar dp un fr gd) (rE L S) (yP L S TL D) more.length s₀' c (K .next) fs s') :
    Seg (model prog w) (Ar dp un fr gd) (rE L S) (yP L S TL D) (tells sx r.tk.text r nx ++ more).length s₀ c ((execs aiBody (aiEnv L)).wrap K H id id) fs s := by
  have eb : aiBody = [nth aiBody 0, nth aiBody 1, nth aiBody 2, nth aiBody 3, nth aiBody 4, nth aiBody 5, nth aiBody 6] ++ [nth aiBody 7, nth aiBody 8, nth aiBody 9, nth aiBody 10, nth aiBody 11] := rfl
  rw [eb]
  refine seg_app ?_
  rw [hA]
  obtain ⟨x1, x4, x5, t1, n5, hmem, hdat⟩ := id hr
  refine Smid (v := vsOf tl ia sx ix r) (TL := TLi) (us := us) (nx := nx) G.X G.T hdp hun F hm N hia (hsub _ G.htl) (hsub _ hmem) kTok h0 hle G.fit ?_ fun h' tk' m' F' hm' kp => ?_
  · cases nx with
    | none => exact hnx
    | some x =>
      obtain ⟨e1, na, t1, y1, y3, y4, y5, n9, e2, e3⟩ := hnx
      exact ⟨e1, na, t1, y1, y3, y4, y5, n9, e2, hsub _ e3⟩
  have M1 : Mid g L S ((vsOf tl ia sx ix r).upd.put (id6 (vsOf tl ia sx ix r).sx r.tk.text r.sv nx)) TLi h' := ⟨⟨m', F', hm'⟩, nw_kept N kp, kp.lst G.SL l⟩
  have ks1 : KS L S s.heap h' := kp.ks
  unfold tells at hD ⊢
  rw [List.append_assoc, List.append_assoc] at hD ⊢
  refine seg_execs_cons (seg_st7 (pre := pre) (more := tellD sx r.tk.text r ++ (tellI sx r.tk.text r nx ++ more)) G hA hdp hun hfs hfg hsub hiS hia M1 hr hD (hs.step kp.kp) fun s₀2 s2 k2 M2 hs2 => ?_)
  refine seg_execs_cons (seg_st8 (pre := pre ++ tellC sx r.tk.text r) (more := tellI sx r.tk.text r nx ++ more) G hA hdp hun hfs hfg hsub hiS hia M2 hr (by rw [List.append_assoc]; exact hD) hs2 fun s₀3 s3 k3 M3 hs3 => ?_)
  refine seg_execs_cons (seg_st9 (pre := (pre ++ tellC sx r.tk.text r) ++ tellD sx r.tk.text r) (more := more) G hA hdp hun hfs hfg hsub hiS M3 hr hpv (by rw [List.append_assoc, List.append_assoc]; exact hD) hs3 fun s₀4 s4 k4 M4 hs4 => ?_)
  obtain ⟨⟨m4, F4, hm4⟩, N4, l4⟩ := M4
  refine seg_wrap ?_
  rw [hA]
  refine S1011 (v := (vsOf tl ia sx ix r).upd) G.X G.T hdp hun F4 hm4 full_news fun h5 tk5 m5 F5 hm5 N5 => ?_
  have kp5 : Kept L s4.heap h5 := kept_of F4 F5 N5
  exact hnext s₀4 _ m5 (KS.trans ks1 (KS.trans k2 (KS.trans k3 (KS.trans k4 kp5.ks)))) F5 hm5 (nw_kept N4 kp5) (kp5.lst G.SL l4) (hs4.step kp5.kp)
end
end Mine

end
section
open PySem PySem.W PySem.Calls PyProof.Rows
set_option Elab.async false
set_option maxRecDepth 100000
namespace Mine
theorem fillB8 : (PySem.Challenge.rw_et5026_01 = PySem.Challenge.rw_et5026_01) ∧ (∀ P, hd.heap_39 P = hd.heap_39 P) := by
  k_fill
  exact ⟨rfl, fun _ => rfl⟩
def rq (rs : List Rec) : List (Str × Rec) := rs.map fun r => (r.tk.text, r)
theorem rng_size {n : Nat} : Builtin.Range.rangeSize 1 ((n + 1 : Nat) : Int) 1 = (n : Int) := by
  unfold Builtin.Range.rangeSize
  rw [if_pos (by decide)]
  by_cases h : n = 0
  · subst h; rfl
  · rw [if_pos (by omega), Int.ediv_one]; omega
theorem n0_n1 {m : Str → Option Value} {v w : VS} {t : Tok} (h : n0 m v) (e : (w.tl, w.ia, w.pt, w.pv, w.fd, w.sc, w.bd) = (v.tl, v.ia, v.pt, v.pv, v.fd, v.sc, v.bd)) : n1 (fun y => if y = Str.ofString "index" then some (.int w.ix t) else m y) w := by
  obtain ⟨tt, h⟩ := h
  simp only [Prod.mk.injEq] at e
  obtain ⟨e1, e2, e3, e4, e5, e6, e7⟩ := e
  refine ⟨⟨t, tt.t1, tt.t2, tt.t3, tt.t4, tt.t5⟩, fun p hp => ?_⟩
  simp only [VS.l1, VS.l0, e1, e2, e3, e4, e5, e6, e7, List.mem_cons, List.not_mem_nil, or_false] at hp
  rcases hp with rfl | hp
  · exact if_pos rfl
  · have := h p (by simp only [VS.l0, List.mem_cons, List.not_mem_nil, or_false]; exact hp)
    rcases hp with rfl | rfl | rfl | rfl | rfl | rfl | rfl <;> exact this

section
variable {prog : Program} {w : World} {dp un dp' un' : Nat} {fr fr' : Option (List Env)} {gd gd' : Option (List Code)} {s s₀ : Shared} {g : Heap} {mean : ExcName → Option Value} {mg mb : Str → Option Value} {L S tl ia it : Nat} {TL TLi : List (Addr × Obj)} {us : List Value} {nt : Nat}
  {D : List (Rec × Str)}
theorem seg_loop (G : GC prog w g L S tl TL us nt mean mg mb) (hdp : dp + 30 < recursionLimit) (hun : un + 290 < cLine) {k : Result → Sem Fin} {lf : List Value} {fb : List Stmt} {fe : Env} {p : Pos} {px : Pos} {rs : List Rec} {ca cb cc : Tok}
    (hus : us = rs.map fun r => .ref r.a) (hok : ∀ r ∈ rs, RecOk TL r) (hsub : ∀ p ∈ TL, p ∈ TLi) (hiS : ∀ p ∈ TLi, p.1 ≠ S) (hiI : ∀ p ∈ TLi, p.1 ≠ it) (hia : (ia, iaO ca cb cc) ∈ TLi) (itL : it ≠ L) (itS : S < it) (git : g.get? it = none)
    (hk : ∀ s₀ s, Since L S s₀ s → Seg (model prog w) (Ar dp un fr gd) (rE L S) (yP L S TL D) 0 s₀ (.func fb fe) (k (.ok .next)) [] s) :
    ∀ (rest : List Rec) (sx : SX Rec) (i : Nat) (done : List Rec) (s₀ s : Shared) (m : Str → Option Value) (pre : List (Rec × Str)) (ix0 : Int) (r0 : Rec), rs = done ++ rest → done.length = i + 1 → RecOk TL sx.pv → Fr g L s.heap m → n0 m (vsOf tl ia sx ix0 r0) →
      News g L s.heap TLi → Lst S s.heap → IsRangeIter s.heap it (1 + (i : Int)) (rest.length : Int) 1 → Since L S s₀ s → D = pre ++ scan sx (rq rest) →
      Seg (model prog w) (Ar dp un fr gd) (rE L S) (yP L S TL D) (scan sx (rq rest)).length s₀ (.forLoop (.Name (Str.ofString "index") px) (.ref it) aiBody [] (aiEnv L))
        ((model prog w).den (.forLoop (.Name (Str.ofString "index") px) (.ref it) aiBody [] (aiEnv L))) [.ret k none false lf (.func fb fe) p []] s := by
  obtain ⟨dp', un', fr', gd', hA, hd1, hu1⟩ := over_loop (dp := dp) (un := un) (fr := fr) (gd := gd) (b := fb) (bd := aiBody) (o := []) (env := fe) (env' := aiEnv L) (t := .Name (Str.ofString "index") px) (it := .ref it) (k := k) (l := lf) (p := p)
  intro rest
  induction rest with
  | nil =>
    intro sx i done s₀ s m pre ix0 r0 hrs hlen hpv F hm N l hit hs hD
    refine seg_forLoop ?_
    rw [hA]
    refine wpAny_pyNext_range_end rfl hit (by simp) fun h' hx => ?_
    refine seg_block (hk s₀ _ ?_)
    refine hs.step (tk := s.toks) fun b o hbL hb e => hx b o ?_ e
    rintro rfl
    rcases hb with hb | hb
    · omega
    · have e' := hit.symm.trans e; cases e'; exact hb rfl
  | cons r rest ih =>
    intro sx i done s₀ s m pre ix0 r0 hrs hlen hpv F hm N l hit hs hD
    refine seg_forLoop ?_
    rw [hA]
    refine wpAny_pyNext_range_item hit (by simp only [List.length_cons]; omega) fun h1 hit1 sb1 => ?_
    have F1 : Fr g L h1 m := n1_ks F (Ne.symm itL).symm git fun b o hb e => sb1.extBut b o hb e
    refine wpAny_assign_Name (wpAny_storeName_local rfl F1.ns fun h2 hn2 sb2 => ?_)
    have F2 := F1.set hn2 sb2
    have kk : ∀ (b : Nat) o, b ≠ L → b ≠ it → s.heap.get? b = some o → h2.get? b = some o := fun b o h3 h4 e => sb2.extBut b o h3 (sb1.extBut b o h4 e)
    have hit2 : IsRangeIter h2 it (1 + ((i + 1 : Nat) : Int)) (rest.length : Int) 1 := by
      have := sb2.extBut it _ itL hit1
      have e1 : 1 + (i : Int) + 1 = 1 + ((i + 1 : Nat) : Int) := by omega
      have e2 : ((r :: rest).length : Int) - 1 = (rest.length : Int) := by rw [List.length_cons]; omega
      rw [e1, e2] at this
      exact this
    have N2 : News g L h2 TLi := fun p hp => ⟨kk _ _ (N p hp).2.1 (hiI p hp) (N p hp).1, (N p hp).2⟩
    have l2 : Lst S h2 := let ⟨o, e, c⟩ := l; ⟨o, kk _ _ G.SL (Nat.ne_of_lt itS) e, c⟩
    have hix : (1 + (i : Int)).toNat = i + 1 := by omega
    have hget : us[(1 + (i : Int)).toNat]? = some (.ref r.a) := by
      rw [hix, hus, hrs, ← hlen, List.map_append, List.getElem?_append_right (by rw [List.length_map]; exact Nat.le_refl _)]
      simp
    have hul : us.length = done.length + (rest.length + 1) := by rw [hus, hrs]; simp
    have hnx : NextIs TL us (1 + (i : Int)) ((rq rest).head?.map (·.1)) := by
      cases rest with
      | nil => show (1 + (i : Int)) + 1 = us.length; rw [hul, hlen]; simp; omega
      | cons r' rest' =>
        refine ⟨by rw [hul, hlen, List.length_cons]; omega, ?_⟩
        obtain ⟨x1, x4, x5, t1, n5, hmem, hdat⟩ := hok r' (by rw [hrs]; simp)
        refine ⟨r'.a, t1, x1, _, x4, x5, n5, ?_, hmem⟩
        have e3 : (1 + (i : Int) + 1).toNat = done.length + 1 := by omega
        rw [e3, hus, hrs, List.map_append, List.getElem?_append_right (by rw [List.length_map]; omega)]
        simp
    refine seg_turn (pre := pre) (more := scan (next sx r.tk.text r) (rq rest)) (nx := (rq rest).head?.map (·.1)) (sx := sx) (r := r) (ix := 1 + (i : Int)) (TL := TL) (TLi := TLi) G hA (by omega) (by omega) rfl rfl hsub hiS hia F2 (n0_n1 (w := vsOf tl ia sx (1 + (i : Int)) r) hm rfl) N2 l2 (hok r (by rw [hrs]; simp)) hpv hget (by omega) (by omega) hnx hD ?_ fun s₀3 s3 m3 k3 F3 hm3 N3 l3 hs3 => ?_
    · refine (hs.step (h' := h2) (tk := s.toks + 1 + 1) fun b o hbL hb e => kk b o hbL ?_ e)
      rintro rfl
      rcases hb with hb | hb
      · omega
      · have e' := hit.symm.trans e; cases e'; exact hb rfl
    · refine seg_again rfl (ih (next sx r.tk.text r) (i + 1) (done ++ [r]) s₀3 s3 m3 (pre ++ tells sx r.tk.text r ((rq rest).head?.map (·.1))) (1 + (i : Int)) r (by rw [hrs]; simp) (by rw [List.length_append, List.length_singleton, hlen]) (hok r (by rw [hrs]; simp)) F3 hm3 N3 l3 (k3 it _ itL (Nat.ne_of_gt itS) hit2) hs3 ?_)
      rw [hD, List.append_assoc]
      rfl
end
end Mine

end
section
open PySem PySem.W PySem.Calls PyProof.Rows
set_option Elab.async false
set_option maxRecDepth 100000
namespace Mine
theorem fillB9 : (PySem.Challenge.rw_et5026_01 = PySem.Challenge.rw_et5026_01) ∧ (∀ P, hd.heap_39 P = hd.heap_39 P) := by
  k_fill
  exact ⟨rfl, fun _ => rfl⟩
section
variable {prog : Program} {w : World} {dp un : Nat} {fr : Option (List Env)} {gd : Option (List Code)} {s s₀ : Shared} {g : Heap} {mean : ExcName → Option Value} {mg mb : Str → Option Value} {L S tl : Nat} {TL : List (Addr × Obj)} {us : List Value} {nt : Nat}
abbrev aiCode (L : Addr) : Code := .func (fnBody (defAt 1)) (aiEnv L)
theorem seg_start (G : GC prog w g L S tl TL us nt mean mg mb) (hdp : dp + 30 < recursionLimit) (hun : un + 290 < cLine) {r0 : Rec} {rest : List Rec} {m : Str → Option Value}
    (hus : us = (r0 :: rest).map fun r => .ref r.a) (hok : ∀ r ∈ r0 :: rest, RecOk TL r) (F : Fr g L s.heap m) (hm : m (Str.ofString "tokens") = some (.ref tl)) (N : News g L s.heap TL) (l : Lst S s.heap) :
    Seg (model prog w) (Ar dp un fr gd) (rE L S) (yP L S TL (scanAll (rq (r0 :: rest)))) (scanAll (rq (r0 :: rest))).length s (aiCode L) ((model prog w).den (aiCode L)) [] s := by
  obtain ⟨dp', un', fr', gd', hA, hd1, hu1⟩ := over_func (dp := dp) (un := un) (fr := fr) (gd := gd) (b := fnBody (defAt 1)) (env := aiEnv L)
  refine seg_func ?_
  rw [show execs (fnBody (defAt 1)) (aiEnv L) = execs ([aiS 0, aiS 1, aiS 2, aiS 3, aiS 4] ++ [aiS 5]) (aiEnv L) from rfl]
  refine seg_app ?_
  rw [hA]
  obtain ⟨x1, x4, x5, t1, n5, hmem, hdat⟩ := hok r0 (.head _)
  have hul : us.length = rest.length + 1 := by rw [hus]; simp
  refine Sinit (tl := tl) (us := us) (n := nt) (ra := r0.a) (tx := r0.tk.text) (sv := r0.sv) (news := full g L s.heap) G.X G.T (by omega) (by omega) F (by intro p hp; rw [List.mem_singleton.mp hp]; exact hm) (nw_con (nw_con full_news (nw_sub N hmem)) (.tail _ (nw_sub N G.htl))) (by rw [hus]; rfl) fun h1 tk1 m1 ia ca cb cc F1 hm1 N1 => ?_
  have kp1 : Kept L s.heap h1 := kept_of F F1 (nw_tl N1)
  have l1 : Lst S h1 := kp1.lst G.SL l
  have Nia := N1 _ (.head _)
  have iaS : ia ≠ S := by
    rintro rfl
    obtain ⟨o, e, c⟩ := l1
    have e' := Nia.1.symm.trans e
    cases e'
    exact absurd c (by show (Value.type "tuple") ≠ Value.type "list"; decide)
  have NT : News g L h1 TL := nw_kept N kp1
  have NTi : News g L h1 ((ia, iaO ca cb cc) :: TL) := fun p hp => by
    rcases List.mem_cons.mp hp with rfl | hp
    · exact Nia
    · exact NT _ hp
  obtain ⟨px, pp, e5⟩ : ∃ px pp, aiS 5 = .For (.Name (Str.ofString "index") px) (forIter (aiS 5)) aiBody [] pp := ⟨_, _, rfl⟩
  refine seg_execs_cons ?_
  rw [e5]
  refine seg_For ?_
  rw [hA]
  refine Riter (us := us) (n := nt) (news := full g L h1) (v := ⟨tl, ia, 0, r0.tk.text, r0.sv, r0.tk.text, r0.sv, none, false, 0, none, .none⟩) G.X G.T (by omega) (by omega) F1 hm1 (nw_con full_news (nw_sub NT G.htl)) G.fit (by omega) fun r t u v h2 tk2 m2 F2 hm2 N2 hR => ?_
  have kp2 : Kept L h1 h2 := kept_of F1 F2 N2
  have hsm : Builtin.Range.small 1 (us.length : Int) 1 = true := small_one (by omega) (by omega) (by have := G.fit; omega) (by have := G.fit; omega)
  refine wpAny_pyIter_range hR hsm ?_
  intro p
  have l2 : Lst S h2 := kp2.lst G.SL l1
  have hS2 : S < h2.objs.size := let ⟨_, e, _⟩ := l2; Heap.lt_size e
  have pk : ∀ (o : Obj) b x, h2.get? b = some x → (h2.push o).get? b = some x := fun o b x e => Heap.get?_push_of_some _ e
  have hnew : g.get? h2.objs.size = none := by
    cases e : g.get? h2.objs.size with
    | none => rfl
    | some o => exact absurd (Heap.lt_size (F2.keep _ _ e)) (Nat.lt_irrefl _)
  have N2i : News g L h2 ((ia, iaO ca cb cc) :: TL) := nw_kept NTi kp2
  have hl : us.length = 1 + rest.length := by omega
  refine seg_loop (ia := ia) (TLi := (ia, iaO ca cb cc) :: TL) (it := h2.objs.size) (rs := r0 :: rest) (ca := ca) (cb := cb) (cc := cc) G hdp hun hus hok (fun p hp => .tail _ hp) ?_ ?_ (.head _) (Nat.ne_of_gt F2.ns.lt) hS2 hnew ?_ rest (start (r0.tk.text, r0)) 0 [r0] s _ m2 [] 0 r0 rfl rfl (hok r0 (.head _)) (F2.push _) hm2 (fun p hp => ⟨pk _ _ _ (N2i p hp).1, (N2i p hp).2⟩) (let ⟨o, e, c⟩ := l2; ⟨o, pk _ _ _ e, c⟩) ?_ ?_ rfl
  · intro p hp
    rcases List.mem_cons.mp hp with rfl | hp
    · exact iaS
    · exact Nat.ne_of_lt (G.tls p hp)
  · intro p hp
    exact Nat.ne_of_lt (Heap.lt_size (N2i p hp).1)
  · intro s₀ s' hs'
    exact seg_end (.ok (.ret .none)) ⟨rfl, rfl, hs'⟩
  · show IsRangeIter _ _ _ _ _
    have e1 : (us.length : Int) = ((rest.length + 1 : Nat) : Int) := by omega
    rw [e1, rng_size]
    exact Heap.get?_push_size _ rfl
  · refine (Since.refl (L := L) (S := S) (s := s)).step (tk := tk2) fun b o hb _ e => pk _ _ _ (kp2 _ _ hb (kp1 _ _ hb e))
end
end Mine

end
section
open PySem PySem.W PySem.Calls PyProof.Rows
set_option Elab.async false
set_option maxRecDepth 100000
namespace Mine
theorem fillB10 : (PySem.Challenge.rw_et5026_01 = PySem.Challenge.rw_et5026_01) ∧ (∀ P, hd.heap_39 P = hd.heap_39 P) := by
  k_fill
  exact ⟨rfl, fun _ => rfl⟩
def Tot (d : Rec × Str) : Dat := place d.1.tk.b d.2
def Safe (L S : Nat) (TL own : List (Addr × Obj)) (h : Heap) : Prop := ∀ p ∈ own, h.get? p.1 = some p.2 ∧ @Ne Nat p.1 L ∧ @Ne Nat p.1 S ∧ (p ∈ TL ∨ (@LT.lt Nat _ S p.1 ∧ p.2.cls ≠ .type "range_iterator"))
structure Zx (L S : Nat) (TL : List (Addr × Obj)) (D : List (Rec × Str)) (st : Shared) (vs : List Value) (s : Shared) : Prop where
  sh : ∃ h tk gens, s = { st with heap := h, toks := tk, gens := gens }
  bare : AllBare s.gens
  kb : ∀ (b : Nat) o, b ≠ L → b < S → st.heap.get? b = some o → s.heap.get? b = some o
  out : ∃ own : List (Addr × Obj), DatAll own vs (D.map Tot) ∧ Safe L S TL own s.heap
structure Jx (prog : Program) (w : World) (A : Around) (L S gi : Nat) (TL : List (Addr × Obj)) (D : List (Rec × Str)) (st : Shared) (k : Nat) (vs : List Value) (s : Shared) : Prop where
  sh : ∃ h tk gens, s = { st with heap := h, toks := tk, gens := gens }
  bare : AllBare s.gens
  l : Lst S s.heap
  kb : ∀ (b : Nat) o, b ≠ L → b < S → st.heap.get? b = some o → s.heap.get? b = some o
  le : k ≤ D.length
  out : ∃ own : List (Addr × Obj), DatAll own vs ((D.take (D.length - k)).map Tot) ∧ Safe L S TL own s.heap
  goes : ∃ gs, s.gens[gi]? = some gs ∧ ∀ s'' : Shared, (∀ b o, b ≠ S → s.heap.get? b = some o → s''.heap.get? b = some o) → Lst S s''.heap → gs.Goes (model prog w) A.in1 (rE L S) (yP L S TL D) k (.send .none) s''

theorem Safe.kp {L S : Nat} {TL own : List (Addr × Obj)} {h h' : Heap} (x : Safe L S TL own h) (tls : ∀ p ∈ TL, @LT.lt Nat _ p.1 S) (k : Kp L S h h') : Safe L S TL own h' := fun p hp =>
  let ⟨a, b, c, d⟩ := x p hp; ⟨k _ _ b (d.elim (fun q => .inl (tls _ q)) fun q => .inr q.2) a, b, c, d⟩
theorem Safe.ot {L S : Nat} {TL own : List (Addr × Obj)} {h h' : Heap} (x : Safe L S TL own h) (k : ∀ b o, b ≠ S → h.get? b = some o → h'.get? b = some o) : Safe L S TL own h' := fun p hp =>
  let ⟨a, b, c, d⟩ := x p hp; ⟨k _ _ c a, b, c, d⟩
theorem Safe.app {L S : Nat} {TL a b : List (Addr × Obj)} {h : Heap} (x : Safe L S TL a h) (y : Safe L S TL b h) : Safe L S TL (a ++ b) h := fun p hp => (List.mem_append.mp hp).elim (x p) (y p)
theorem take_next {D : List (Rec × Str)} {d : Rec × Str} {k : Nat} (h : k + 1 ≤ D.length) (hd : D[D.length - 1 - k]? = some d) : D.take (D.length - k) = D.take (D.length - (k + 1)) ++ [d] := by
  have e : D.length - k = D.length - (k + 1) + 1 := by omega
  have e2 : D.length - 1 - k = D.length - (k + 1) := by omega
  rw [e2] at hd
  rw [e, List.take_succ, hd]
  rfl

section
variable {prog : Program} {w : World} {A : Around} {st : Shared} {g : Heap} {L S I gi : Nat} {TL : List (Addr × Obj)} {D : List (Rec × Str)}
theorem drains (hh : A.handled = none) (hroom : A.depth < recursionLimit) (hI : I < S) (hIL : I ≠ L) (hg : st.heap.IsGen I gi) (gl : g.NoLimit) (gk : ∀ b o, g.get? b = some o → b ≠ L ∧ b < S ∧ st.heap.get? b = some o) (SL : S ≠ L) (tls : ∀ p ∈ TL, @LT.lt Nat _ p.1 S) :
    Drains prog w A I S (Jx prog w A L S gi TL D st) (Zx L S TL D st) where
  self := fun k vs s J => ⟨gi, let ⟨o, nm, qn, ho, r⟩ := hg; ⟨o, nm, qn, J.kb I o hIL hI ho, r⟩⟩
  other := fun k vs s h' J hk hl => by
    obtain ⟨⟨h, tk, gens, e⟩, bare, l, kb, le, ⟨own, hD, hS⟩, gs, hgs, hgo⟩ := J
    refine ⟨⟨h', tk, gens, by rw [e]⟩, bare, hl, fun b o h1 h2 e => hk b o (Nat.ne_of_lt h2) (kb b o h1 h2 e), le, ⟨own, hD, hS.ot hk⟩, gs, hgs, fun s'' hk2 l2 => hgo s'' (fun b o h1 e => hk2 b o h1 (hk b o h1 e)) l2⟩
  item := fun k vs s J => by
    have hgen : s.heap.IsGen I gi := let ⟨o, nm, qn, ho, r⟩ := hg; ⟨o, nm, qn, J.kb I o hIL hI ho, r⟩
    have hlim : s.heap.NoLimit := gl.keeps fun b o e => let ⟨a, b', c⟩ := gk b o e; J.kb b o a b' c
    obtain ⟨⟨h, tk, gens, e⟩, bare, l, kb, le, ⟨own, hDa, hSa⟩, gs, hgs, hgo⟩ := J
    refine next_genQ (n := k + 1) (P := fun n s₀ s₁ => n = 0 ∧ Since L S s₀ s₁) (Y := yP L S TL D) hh hlim hroom hgen hgs (hgo _ (fun _ _ _ e => e) l) (fun v s₁ gs' hb hv => ?_) (fun s₁ hp h' hk => absurd hp.1 (Nat.succ_ne_zero k))
    obtain ⟨⟨d, hd, own1, hD1, hown1⟩, ⟨⟨h1, t1, rfl⟩, kp⟩, l1, hk⟩ := hv
    have hgens : AllBare ((({ s.setGen gi .running with heap := h1, toks := t1 } : Shared)).setGen gi gs').gens :=
      (GenOnlyQ.of ((GenOnly.setGen s gi .running).trans (GenOnly.setGen ({ s.setGen gi .running with heap := h1, toks := t1 } : Shared) gi gs')) (setGen_self (gs := .running) (setGen_self hgs)) hb).bare bare
    have kp' : Kp L S s.heap h1 := kp
    refine ⟨v, rfl, ⟨?_, hgens, l1, fun b o h1 h2 e => kp' b o h1 (.inl h2) (kb b o h1 h2 e), by omega, ⟨own ++ own1, ?_, (hSa.kp tls kp').app hown1⟩, gs', setGen_self (gs := .running) (setGen_self hgs), fun s'' hk2 l2 => hk s'' hk2 l2⟩, fun o ho => ?_⟩
    · subst e; exact ⟨h1, t1, _, rfl⟩
    · rw [take_next le hd, List.map_append]
      exact DatAll.append (DatAll.mono (fun p hp => List.mem_append_left _ hp) hDa) (DatAll.one (DatIn.mono (fun p hp => List.mem_append_right _ hp) hD1))
    · refine kp' S o SL (.inr ?_) ho
      obtain ⟨o', e1, c⟩ := l
      rw [ho] at e1
      cases e1
      rw [c]
      decide
  done := fun vs s J => by
    have hgen : s.heap.IsGen I gi := let ⟨o, nm, qn, ho, r⟩ := hg; ⟨o, nm, qn, J.kb I o hIL hI ho, r⟩
    have hlim : s.heap.NoLimit := gl.keeps fun b o e => let ⟨a, b', c⟩ := gk b o e; J.kb b o a b' c
    obtain ⟨⟨h, tk, gens, e⟩, bare, l, kb, le, ⟨own, hDa, hSa⟩, gs, hgs, hgo⟩ := J
    refine next_genQ (n := 0) (P := fun n s₀ s₁ => n = 0 ∧ Since L S s₀ s₁) (Y := yP L S TL D) hh hlim hroom hgen hgs (hgo _ (fun _ _ _ e => e) l) (fun v s₁ gs' hb hv => ?_) (fun s₁ hp h' hk => ?_)
    · obtain ⟨_, _, l1, hk⟩ := hv
      exact (hk s₁ (fun _ _ _ e => e) l1).elim
    · obtain ⟨_, ⟨⟨h1, t1, rfl⟩, kp⟩⟩ := hp
      have kp' : Kp L S s.heap h1 := kp
      have hgens : AllBare ((({ s.setGen gi .running with heap := h1, toks := t1 } : Shared)).setGen gi .finished).gens :=
        (GenOnlyQ.of ((GenOnly.setGen s gi .running).trans (GenOnly.setGen ({ s.setGen gi .running with heap := h1, toks := t1 } : Shared) gi .finished)) (setGen_self (gs := .running) (setGen_self hgs)) rfl).bare bare
      refine ⟨rfl, ⟨?_, hgens, fun b o h1 h2 e => hk b o (kp' b o h1 (.inl h2) (kb b o h1 h2 e)), ⟨own, ?_, (hSa.kp tls kp').kp tls fun b o _ _ e => hk b o e⟩⟩, fun o ho => hk S o (kp' S o SL (.inr ?_) ho)⟩
      · subst e; exact ⟨h', t1, _, rfl⟩
      · simpa using hDa
      · obtain ⟨o', e1, c⟩ := l
        rw [ho] at e1
        cases e1
        rw [c]
        decide
end
end Mine

end
section
open PySem PySem.W PySem.Calls PyProof.Rows
set_option Elab.async false
set_option maxRecDepth 100000
namespace Mine
theorem fillB11 : (PySem.Challenge.rw_et5026_01 = PySem.Challenge.rw_et5026_01) ∧ (∀ P, hd.heap_39 P = hd.heap_39 P) := by
  k_fill
  exact ⟨rfl, fun _ => rfl⟩
theorem datall_inv {TL : List (Addr × Obj)} {us : List Value} {d : Dat} {ds : List Dat} (h : DatAll TL us (d :: ds)) : ∃ u us', us = u :: us' ∧ DatIn TL u d ∧ DatAll TL us' ds := by
  cases h with
  | cons a b => exact ⟨_, _, rfl, a, b⟩
theorem recs {TL : List (Addr × Obj)} {line : Str} : ∀ {ts : List Tk} {us : List Value}, DatAll TL us (ts.map (tkD line)) → ∃ rs : List Rec, rs.map (·.tk) = ts ∧ us = rs.map (fun r => .ref r.a) ∧ ∀ r ∈ rs, RecOk TL r
  | [], us, h => by cases h; exact ⟨[], rfl, rfl, fun _ h => nomatch h⟩
  | t :: ts, us, h => by
    obtain ⟨u, us', rfl, h1, h2⟩ := datall_inv h
    obtain ⟨rs, e1, e2, e3⟩ := recs h2
    unfold tkD at h1
    cases h1 with
    | @tuple a vs n _ hm hd =>
      obtain ⟨v1, vs1, rfl, d1, hd⟩ := datall_inv hd
      obtain ⟨v2, vs2, rfl, d2, hd⟩ := datall_inv hd
      obtain ⟨v3, vs3, rfl, d3, hd⟩ := datall_inv hd
      obtain ⟨v4, vs4, rfl, d4, hd⟩ := datall_inv hd
      obtain ⟨v5, vs5, rfl, d5, hd⟩ := datall_inv hd
      cases hd
      cases d2
      refine ⟨⟨t, a, v3⟩ :: rs, by rw [List.map_cons, e1], by rw [List.map_cons, ← e2], fun r hr => ?_⟩
      rcases List.mem_cons.mp hr with rfl | hr
      · exact ⟨v1, v4, v5, _, n, hm, d3⟩
      · exact e3 r hr
theorem told_eq {rs : List Rec} {ts : List Tk} (h : rs.map (·.tk) = ts) : (scanAll (rq rs)).map Tot = (scanAll (ts.map fun t => (t.text, t.b))).map fun p => place p.1 p.2 := by
  subst h
  have e : (rs.map (·.tk)).map (fun t => (t.text, t.b)) = mq (fun r : Rec => r.tk.b) (rq rs) := by
    simp [mq, rq]
  rw [e, scanAll_map]
  simp only [mp, List.map_map]
  rfl

section
variable {prog : Program} {w : World} {A : Around} {s : Shared} {R : Result → Shared → Prop} {K : Frag} {h₀ : Heap} {p : Program} {loose : List Str} {mean : ExcName → Option Value} {mg mb : Str → Option Value}
theorem enterG {name qual : Str} {params : Arguments} {body : List Stmt} {scope : Scope} {dV kV doc pm cdv ct oc : Value} {an od : Option Addr} {osl : Array (Option Value)} {f : Addr} {args : Args} {binds : List (Str × Value)}
    (hk : h₀.StaysIn s.heap) (X : K.In h₀) (T : Top p loose mean mg mb h₀)
    (ho : K.lookup f = some ⟨oc, od, .func (fnOf name qual params body scope dV kV doc pm an cdv ct), osl⟩) (hcd : codeIn K cdv qual = true) (hroom : A.depth < recursionLimit)
    (hbind : BindsTo s (fnOf name qual params body scope dV kV doc pm an cdv ct) args binds) (hloc : ∀ y ∈ binds, scope.names.lookup y.1 = some .local)
    (h : ∀ (h₁ : Heap) (nm qn : Value) (tk : Nat), h₁.Ns s.heap.objs.size (fun y => binds.reverse.lookup y) → (∀ b o, s.heap.get? b = some o → h₁.get? b = some o) → h₁.objs.size = s.heap.objs.size + 1 →
      R (.ok (.ret (.ref h₁.objs.size))) { s with gens := s.gens.push (.fresh (.func body (envOf qual scope s.heap.objs.size f cdv))), toks := tk, heap := h₁.push { cls := .type "generator", data := .fields #[.int s.gens.size 0, nm, qn] } })
    (hco : scope.isCoroutine = false) (hgen : scope.isGenerator = true) (hk' : scope.kind = .function) (hcell : ∀ x ∈ scope.names, x.2 ≠ .cell) :
    codeAny (model prog w) A (.call (.ref f) args) R s := by
  refine codeAny_call_generator (fd := fnOf name qual params body scope dV kV doc pm an cdv ct) (body := body) hroom (hk _ _ (X _ _ ho)) rfl hco hgen rfl (codeRec_of (X.keeps hk) hcd) (hbind _ _ _ _ ?_)
  refine wpAny_newFunctionEnv hcell hloc (fun h₁ hns hsb => ⟨(T.nolimit.keeps hk).fresh _ hsb, ?_⟩) hk'
  refine h h₁ _ _ _ hns (fun b o e => ?_) ?_
  · exact hsb.extBut b o (Nat.ne_of_lt (Heap.lt_size e)) (Heap.get?_push_of_some _ e)
  · rw [hsb.1, Heap.size_push]
end

section
variable {prog : Program} {w : World} {dp un : Nat} {fr : Option (List Env)} {gd : Option (List Code)} {s : Shared} {h₀ : Heap} {mean : ExcName → Option Value} {mg mb : Str → Option Value} {L tl : Nat} {m : Str → Option Value}
theorem told_list {Q : Value → Shared → Prop} {E : Value → Shared → Prop} {TL : List (Addr × Obj)} {us : List Value} {nt I gi : Nat} {r0 : Rec} {rest : List Rec}
    (F : Fr h₀ L s.heap m) (hm : m (Str.ofString "tokens") = some (.ref tl)) (X : (hd.heap_39 w.params).In h₀) (T : Top hd.view_39 (looseW hd.view_39 []) mean mg mb h₀) (hdp : dp + 40 < recursionLimit) (hun : un + 300 < cLine)
    (hI : s.heap.IsGen I gi) (hIL : I ≠ L) (hgs : s.gens[gi]? = some (.fresh (aiCode L))) (hB : AllBare s.gens) (N : News h₀ L s.heap TL) (htl : (tl, listOf us.toArray nt) ∈ TL)
    (hus : us = (r0 :: rest).map fun r => .ref r.a) (hok : ∀ r ∈ r0 :: rest, RecOk TL r) (hlen : us.length ≤ 1100) (hmax : (scanAll (rq (r0 :: rest))).length ≤ 1100)
    (h : ∀ vs own h' tk' gens' c', AllBare gens' → (∀ b o, b ≠ L → s.heap.get? b = some o → h'.get? b = some o) → h'.get? s.heap.objs.size = some (listOf vs.toArray c') →
      DatAll own vs ((scanAll (rq (r0 :: rest))).map Tot) → (∀ p ∈ own, h'.get? p.1 = some p.2 ∧ p.1 ≠ s.heap.objs.size ∧ (p ∈ TL ∨ s.heap.get? p.1 = none)) → Q (.ref s.heap.objs.size) { s with heap := h', toks := tk', gens := gens' }) :
    wpAny (model prog w) (Ar dp un fr gd) (call (.type "list") [.ref I]) Q E s := by
  have hLS : L < s.heap.objs.size := F.ns.lt
  have hIS : I < s.heap.objs.size := let ⟨_, _, _, e, _⟩ := hI; Heap.lt_size e
  have pk : ∀ (hh : Heap) (o : Obj) b x, hh.get? b = some x → (hh.push o).get? b = some x := fun hh o b x e => Heap.get?_push_of_some _ e
  have hgS : h₀.get? s.heap.objs.size = none := by
    cases e : h₀.get? s.heap.objs.size with
    | none => rfl
    | some o => exact absurd (Heap.lt_size (F.keep _ _ e)) (Nat.lt_irrefl _)
  have tls : ∀ p ∈ TL, @LT.lt Nat _ p.1 s.heap.objs.size := fun p hp => Heap.lt_size (N p hp).1
  have G : GC prog w h₀ L s.heap.objs.size tl TL us nt mean mg mb := ⟨X, T, Nat.ne_of_gt hLS, hgS, tls, htl, hlen⟩
  refine list_drains (Z := Zx L s.heap.objs.size TL (scanAll (rq (r0 :: rest))) { s with heap := s.heap.push { cls := .type "list", data := .seq #[] } }) (J := Jx prog w (Ar dp un fr gd).in1.in1 L s.heap.objs.size gi TL (scanAll (rq (r0 :: rest))) { s with heap := s.heap.push { cls := .type "list", data := .seq #[] } })
    (drains (g := h₀) rfl (by show dp < recursionLimit; omega) hIS hIL (hI.push _) T.nolimit (fun b o e => ?_) (Nat.ne_of_gt hLS) tls) (scanAll (rq (r0 :: rest))).length hmax ?_ hIS fun vs' s' c' hZ hS => ?_
  · have hb := F.keep b o e
    refine ⟨?_, Heap.lt_size hb, pk _ _ _ _ hb⟩
    exact Nat.ne_of_lt (Nat.lt_of_lt_of_le (Heap.lt_size e) F.above)
  · refine ⟨⟨_, _, _, rfl⟩, hB, ⟨_, Heap.get?_push_size _ rfl, rfl⟩, fun b o _ _ e => e, Nat.le_refl _, ⟨[], ?_, fun _ h => nomatch h⟩, ⟨_, hgs, fun s'' hk hl => ⟨rfl, ?_⟩⟩⟩
    · rw [Nat.sub_self]; exact .nil
    · have F'' : Fr h₀ L s''.heap m := n1_ks (F.push _) (Nat.ne_of_gt hLS) hgS hk
      exact seg_start (dp := dp) (un := un + 1 + 1 + 1) (fr := fr) (gd := gd) G (by omega) (by omega) hus hok F'' hm (fun p hp => ⟨hk _ _ (Nat.ne_of_lt (tls p hp)) (pk _ _ _ _ (N p hp).1), (N p hp).2⟩) hl
  · obtain ⟨⟨h', tk, gens, rfl⟩, bare, kb, own, hD, safe⟩ := hZ
    refine h vs' own h' tk gens c' bare (fun b o hb e => kb b o hb (Heap.lt_size e) (pk _ _ _ _ e)) hS hD fun p hp => ?_
    obtain ⟨a1, a2, a3, a4⟩ := safe p hp
    refine ⟨a1, a3, a4.elim .inl fun q => .inr ?_⟩
    cases e : s.heap.get? p.1 with
    | none => rfl
    | some o => exact absurd (Heap.lt_size e) (Nat.not_lt.mpr (Nat.le_of_lt q.1))

theorem told_K {Q : Value → Shared → Prop} {E : Value → Shared → Prop} {TL : List (Addr × Obj)} {us : List Value} {nt : Nat} {line : Str} {tt : Tok} {ts : List Tk}
    (F : Fr h₀ L s.heap m) (X : (hd.heap_39 w.params).In h₀) (T : Top hd.view_39 (looseW hd.view_39 []) mean mg mb h₀) (hdp : dp + 40 < recursionLimit) (hun : un + 300 < cLine)
    (hTL : ∀ p ∈ TL, s.heap.get? p.1 = some p.2 ∧ h₀.get? p.1 = none) (htl : (tl, listOf us.toArray nt) ∈ TL) (hD : DatAll TL us (ts.map (tkD line))) (hne : ts ≠ []) (hlen : ts.length ≤ 1100) (hB : AllBare s.gens)
    (hmax : ((scanAll (ts.map fun t => (t.text, t.b))).map fun p => place p.1 p.2).length ≤ 1100)
    (h : ∀ (S : Nat) vs own h' tk' gens' c', AllBare gens' → (∀ b o, s.heap.get? b = some o → h'.get? b = some o) → h'.get? S = some (listOf vs.toArray c') → s.heap.get? S = none →
      DatAll own vs ((scanAll (ts.map fun t => (t.text, t.b))).map fun p => place p.1 p.2) → (∀ p ∈ own, h'.get? p.1 = some p.2 ∧ p.1 ≠ S ∧ (p ∈ TL ∨ s.heap.get? p.1 = none)) → Q (.ref S) { s with heap := h', toks := tk', gens := gens' }) :
    wpAny (model prog w) (Ar dp un fr gd) (call (.ref 21) [.str line tt, .ref tl]) (fun v s₁ => wpAny (model prog w) (Ar dp un fr gd) (call (.type "list") [v]) Q E s₁) E s := by
  obtain ⟨rs, e1, e2, hok⟩ := recs hD
  refine wpAny_call ?_
  refine enterG (K := hd.heap_39 w.params) (binds := [(Str.ofString "logical_line", .str line tt), (Str.ofString "tokens", .ref tl)]) F.keep X T (by k_is) (by k_is) (by show dp < recursionLimit; omega) (BindsTo.of_eq rfl) (locs rfl) ?_ rfl rfl rfl (by decide)
  intro h₁ nmv qnv tk₁ hns hkp hsz
  cases rs with
  | nil => exact absurd (by simpa using e1.symm) hne
  | cons r0 rest =>
    have hul : us.length ≤ 1100 := by
      rw [e2, List.length_map]
      have : (r0 :: rest).length = ts.length := by rw [← e1, List.length_map]
      omega
    have hDl : (scanAll (rq (r0 :: rest))).length ≤ 1100 := by
      rw [← told_eq e1, List.length_map] at hmax
      exact hmax
    have pk : ∀ (hh : Heap) (o : Obj) b x, hh.get? b = some x → (hh.push o).get? b = some x := fun hh o b x e => Heap.get?_push_of_some _ e
    have hsz0 : h₀.objs.size ≤ s.heap.objs.size := Nat.le_trans F.above (Nat.le_of_lt F.ns.lt)
    have Fg : Fr h₀ s.heap.objs.size h₁ (fun y => ([(Str.ofString "logical_line", Value.str line tt), (Str.ofString "tokens", Value.ref tl)] : List (Str × Value)).reverse.lookup y) := ⟨hns, fun b o e => hkp b o (F.keep b o e), hsz0⟩
    refine told_list (L := s.heap.objs.size) (tl := tl) (I := h₁.objs.size) (gi := s.gens.size) (TL := TL) (us := us) (nt := nt) (r0 := r0) (rest := rest) (Fg.push _) rfl X T hdp hun ⟨_, _, _, Heap.get?_push_size _ rfl, rfl, rfl, rfl⟩ (by rw [hsz]; exact Nat.succ_ne_self _) (Array.getElem?_push_size ..) (hB.push rfl)
      (fun p hp => ⟨pk _ _ _ _ (hkp _ _ (hTL p hp).1), Nat.ne_of_lt (Heap.lt_size (hTL p hp).1), (hTL p hp).2⟩) htl e2 hok hul hDl fun vs own h' tk' gens' c' hB' hk' hS hD' ho => ?_
    rw [told_eq e1] at hD'
    refine h _ vs own h' tk' gens' c' hB' (fun b o e => hk' b o (Nat.ne_of_lt (Heap.lt_size e)) (pk _ _ _ _ (hkp b o e))) hS ?_ hD' fun p hp => ?_
    · cases e : s.heap.get? (h₁.push { cls := .type "generator", data := .fields #[.int s.gens.size 0, nmv, qnv] }).objs.size with
      | none => rfl
      | some o =>
        have := Heap.lt_size (pk _ ({ cls := .type "generator", data := .fields #[.int s.gens.size 0, nmv, qnv] } : Obj) _ _ (hkp _ _ e))
        exact absurd this (Nat.lt_irrefl _)
    · obtain ⟨a1, a2, a3⟩ := ho p hp
      refine ⟨a1, a2, a3.elim .inl fun q => .inr ?_⟩
      cases e : s.heap.get? p.1 with
      | none => rfl
      | some o => exact absurd (q.symm.trans (pk _ _ _ _ (hkp _ _ e))) (fun z => nomatch z)
end
end Mine

end
section
open PySem PySem.W PySem.Calls PyProof.Rows
set_option Elab.async false
set_option maxRecDepth 100000
namespace Mine
theorem fillC1 : (PySem.Challenge.rw_et5026_01 = PySem.Challenge.rw_et5026_01) ∧ (∀ P, hd.heap_39 P = hd.heap_39 P) := by
  k_fill
  exact ⟨rfl, fun _ => rfl⟩
local macro_rules | `(tactic| tb_start) => `(tactic| repeat' ((fail_if_success (with_reducible show wpAny _ _ (call (Value.ref _) _) _ _ _)); (fail_if_success (with_reducible show wpAny _ _ (call (Value.type _) _) _ _ _)); (fail_if_success (with_reducible show wpAny _ _ (call (Value.builtin _) _) _ _ _)); (first | (k_unfold; (try dsimp only)) | (k_end; wrow_close) | walk1 | (dsimp only; walk1) | (leave1; walk_say "STEP leave1"; try dsimp only) | fail "no step")))
abbrev lwEnv (fa : Addr) (cd : Value) (L : Addr) : Env := envOf (Str.ofString "law") (fnScope (defAt 7)) L fa cd
def lwBody : List Stmt := forBody (nth (fnBody (defAt 7)) 3)
abbrev lwS (k : Nat) : Stmt := nth (fnBody (defAt 7)) k
theorem new_off {g h : Heap} {L a : Addr} {m : Str → Option Value} (F : Fr g L h m) (e : h.get? a = none) : a ≠ L ∧ g.get? a = none := by
  refine ⟨?_, ?_⟩
  · rintro rfl
    obtain ⟨o, _, _, e', _⟩ := F.ns
    rw [e] at e'
    cases e'
  · cases c : g.get? a with
    | none => rfl
    | some o => have := F.keep _ _ c; rw [e] at this; cases this
section
variable {prog : Program} {w : World} {fa : Addr} {cd : Value} {dp un : Nat} {fr : Option (List Env)} {gd : Option (List Code)} {s : Shared} {g : Heap} {mean : ExcName → Option Value} {mg mb : Str → Option Value} {L : Addr} {m : Str → Option Value}
theorem LB0 {st sc : Addr} {i x : Int} {t1 t2 : Tok} {n : Nat} {Q : Flow → Shared → Prop} {E : Value → Shared → Prop} (X : (hd.heap_39 w.params).In g) (T : Top hd.view_39 (looseW hd.view_39 []) mean mg mb g) (hdp : dp + 60 < recursionLimit) (hun : un + 400 < cLine)
    (F : Fr g L s.heap m) (hm : ∀ p ∈ ([(Str.ofString "state", .ref st)] : List (Str × Value)), m p.1 = some p.2)
    (hst : s.heap.get? st = some (listOf #[.ref sc, .int i t1, .int x t2] n)) (gst : g.get? st = none) (stL : st ≠ L) (hsc : Sc s.heap sc) (hne : sc ≠ st) (B : StF i x)
    (h : ∀ tx ds t' dl i' x' t1' t2' n' nd ws own h' tk' m', RowS tx ds → (dl, listOf ws.toArray nd) ∈ own → DatAll own ws ds → StF i' x' → (∀ b o, b ≠ st → b ≠ L → s.heap.get? b = some o → h'.get? b = some o) → h'.get? st = some (listOf #[.ref sc, .int i' t1', .int x' t2'] n') →
      (∀ p ∈ own, h'.get? p.1 = some p.2 ∧ s.heap.get? p.1 = none) → Fr g L h' m' → m' (Str.ofString "text") = some (.str tx t') → m' (Str.ofString "places") = some (.ref dl) → (∀ y, y ≠ Str.ofString "text" → y ≠ Str.ofString "places" → m' y = m y) → Q .next { s with heap := h', toks := tk' }) :
    wpAny (model prog w) (Ar dp un fr gd) (exec (nth lwBody 0) (lwEnv fa cd L)) Q E s := by
  dsimp only [lwBody, defAt, PySem.Challenge.pw_et5026_01, nth, fnBody, forBody, ifElse, ifThen, fnScope, lwEnv]
  have kMark := kdMark
  have N : News g L s.heap ((st, listOf #[.ref sc, .int i t1, .int x t2] n) :: full g L s.heap) := nw_con full_news (full_mem hst stL gst)
  have hsc' : Sc (hideAll s.heap [st]) sc := by
    obtain ⟨vs, ns, ⟨o, ho, r⟩, b, c⟩ := hsc
    exact ⟨vs, ns, ⟨o, hideAll_get _ ho (by simpa using hne), r⟩, b, c⟩
  have nm' : ∀ b o, g.get? b = some o → b ∉ [st] := fun b o e q => by rw [List.mem_singleton.mp q, gst] at e; cases e
  have stays : g.StaysIn (hideAll s.heap [st]) := fun b o e => hideAll_get _ (F.keep b o e) (nm' b o e)
  have X' := X.keeps stays
  have T' := T.keeps stays
  have hov := ov_of hm
  rw [hov] at F
  clear hm
  w_on
  w_strict tb_start
  refine wpAny_call (row_code (h₀ := hideAll s.heap [st]) (sc := sc) (i := i) (x := x) (fun b o e => of_hideAll _ e) X' T' (by omega) (by omega) hst (hideAll_none _ (.head _)) hsc' B ?_)
  intro tx ds t' q dl i' x' t1' t2' n' nd ws own h' tk' hR hq hdl hD B' hk hs ho
  have F1 := n1_ks F stL gst (fun b o hb e => hk b o hb e)
  have hq' := new_off F (ho _ hq).2
  have N1 : News g L h' ((q, ({ cls := .type "tuple", data := .seq #[.str tx t', .ref dl] } : Obj)) :: full g L h') := nw_con full_news (full_mem (ho _ hq).1 hq'.1 hq'.2)
  clear N
  have F1s := And.intro trivial F1
  have F0s := And.intro trivial F
  clear F
  dsimp only
  w_strict tb_start
  all_goals (rename Fr _ _ _ _ => kF); (rename News _ _ _ _ => kN)
  have kp := kept_of F1s.2 kF (nw_tl kN)
  refine h tx ds t' dl i' x' t1' t2' n' nd ws own _ _ _ hR hdl hD B' (fun b o h1 h2 e => kp _ _ h2 (hk b o h1 e)) (kp _ _ stL hs) (fun p hp => ⟨kp _ _ (new_off F0s.2 (ho p hp).2).1 (ho p hp).1, (ho p hp).2⟩) kF rfl rfl (fun y h1 h2 => ?_)
  rw [if_neg h2, if_neg h1, ← hov]
end
end Mine

end
section
open PySem PySem.W PySem.Calls PyProof.Rows
set_option Elab.async false
set_option maxRecDepth 100000
namespace Mine
theorem fillC2 : (PySem.Challenge.rw_et5026_01 = PySem.Challenge.rw_et5026_01) ∧ (∀ P, hd.heap_39 P = hd.heap_39 P) := by
  k_fill
  exact ⟨rfl, fun _ => rfl⟩
local macro_rules | `(tactic| tb_start) => `(tactic| repeat' ((fail_if_success (with_reducible show wpAny _ _ (call (Value.ref _) _) _ _ _)); (fail_if_success (with_reducible show wpAny _ _ (call (Value.type _) _) _ _ _)); (fail_if_success (with_reducible show wpAny _ _ (call (Value.builtin _) _) _ _ _)); (first | (k_unfold; (try dsimp only)) | (k_end; wrow_close) | walk1 | (dsimp only; walk1) | (leave1; walk_say "STEP leave1"; try dsimp only) | fail "no step")))

theorem tks_len : ∀ (n : Nat) (cs : List Nat) (k : Nat), cs.length ≤ n → (tks cs k).length ≤ cs.length
  | 0, cs, k, h => by rw [tks_short (by omega)]; exact Nat.zero_le _
  | n + 1, cs, k, h => by
    match cs with
    | [] => rw [tks_nil]; exact Nat.zero_le _
    | [c] => rw [tks_last]; exact Nat.zero_le _
    | c :: d :: r =>
      simp only [List.length_cons] at h
      by_cases h32 : c = 32
      · subst h32
        rw [tks_space]
        have := tks_len n (d :: r) (k + 1) (by simp only [List.length_cons]; omega)
        simp only [List.length_cons] at this ⊢
        omega
      cases h2 : isTwo c d with
      | true =>
        rw [tks_two h32 h2, List.length_cons]
        have := tks_len n r (k + 2) (by omega)
        simp only [List.length_cons]
        omega
      | false =>
        cases h3 : Unicode.isAlnum c with
        | true =>
          rw [tks_alnum h32 h2 h3, List.length_cons]
          have hl : ((d :: r).drop (run (d :: r))).length ≤ n := by rw [List.length_drop, List.length_cons]; omega
          have := tks_len n _ (k + 1 + run (d :: r)) hl
          rw [List.length_drop, List.length_cons] at this
          simp only [List.length_cons]
          omega
        | false =>
          rw [tks_one h32 h2 h3, List.length_cons]
          have := tks_len n (d :: r) (k + 1) (by simp only [List.length_cons]; omega)
          simp only [List.length_cons] at this ⊢
          omega
theorem toks_ne {t : Str} : toksOf t ≠ [] := by unfold toksOf; simp
theorem toks_len {t : Str} (h : t.length ≤ 1000) : (toksOf t).length ≤ 1100 := by
  unfold toksOf
  have h1 := tks_len _ t.cps.toList 0 (Nat.le_refl _)
  have h2 := str_len t
  rw [List.length_append, List.length_singleton]
  omega
theorem datlist_inv {TL : List (Addr × Obj)} {l : Addr} {ds : List Dat} (h : DatIn TL (.ref l) (.list ds)) : ∃ us n, (l, listOf us.toArray n) ∈ TL ∧ DatAll TL us ds := by
  cases h with
  | list a b => exact ⟨_, _, a, b⟩
section
variable {prog : Program} {w : World} {fa : Addr} {cd : Value} {dp un : Nat} {fr : Option (List Env)} {gd : Option (List Code)} {s : Shared} {g : Heap} {mean : ExcName → Option Value} {mg mb : Str → Option Value} {L : Addr} {m : Str → Option Value}
theorem gen_code {line : Str} {tt : Tok} {tl : Addr} {R : Result → Shared → Prop} (F : Fr g L s.heap m) (X : (hd.heap_39 w.params).In g) (T : Top hd.view_39 (looseW hd.view_39 []) mean mg mb g) (hdp : dp + 40 < recursionLimit)
    (h : ∀ (h' : Heap) (I : Nat) (m' : Str → Option Value) (tk : Nat), Fr g s.heap.objs.size h' m' → m' (Str.ofString "tokens") = some (.ref tl) → h'.IsGen I s.gens.size → I ≠ s.heap.objs.size → (∀ b o, s.heap.get? b = some o → h'.get? b = some o) →
      R (.ok (.ret (.ref I))) { s with gens := s.gens.push (.fresh (aiCode s.heap.objs.size)), toks := tk, heap := h' }) :
    codeAny (model prog w) (Ar dp un fr gd) (.call (.ref 21) ⟨[.str line tt, .ref tl], []⟩) R s := by
  refine enterG (K := hd.heap_39 w.params) (binds := [(Str.ofString "logical_line", .str line tt), (Str.ofString "tokens", .ref tl)]) F.keep X T (by k_is) (by k_is) (by show dp < recursionLimit; omega) (BindsTo.of_eq rfl) (locs rfl) ?_ rfl rfl rfl (by decide)
  intro h₁ nmv qnv tk₁ hns hkp hsz
  have hsz0 : g.objs.size ≤ s.heap.objs.size := Nat.le_trans F.above (Nat.le_of_lt F.ns.lt)
  have Fg : Fr g s.heap.objs.size h₁ (fun y => ([(Str.ofString "logical_line", Value.str line tt), (Str.ofString "tokens", Value.ref tl)] : List (Str × Value)).reverse.lookup y) := ⟨hns, fun b o e => hkp b o (F.keep b o e), hsz0⟩
  exact h _ h₁.objs.size _ tk₁ (Fg.push _) rfl ⟨_, _, _, Heap.get?_push_size _ rfl, rfl, rfl, rfl⟩ (by rw [hsz]; exact Nat.succ_ne_self _) (fun b o e => Heap.get?_push_of_some _ (hkp b o e))
theorem LB1 {ta : Addr} {tx : Str} {tt : Tok} {tvs : List Value} {nt : Nat} {body : List Nat} {Q : Flow → Shared → Prop} {E : Value → Shared → Prop} (X : (hd.heap_39 w.params).In g) (T : Top hd.view_39 (looseW hd.view_39 []) mean mg mb g) (hdp : dp + 60 < recursionLimit) (hun : un + 400 < cLine)
    (F : Fr g L s.heap m) (hm : ∀ p ∈ ([(Str.ofString "told", .ref ta), (Str.ofString "text", .str tx tt)] : List (Str × Value)), m p.1 = some p.2)
    (hta : s.heap.get? ta = some (listOf tvs.toArray nt)) (gta : g.get? ta = none) (taL : ta ≠ L) (hsz : tvs.length ≤ 10) (hfit : tx.length ≤ 1000) (hend : tx.cps.toList = body ++ [10]) (hmax : (toldOf tx).length ≤ 1100) (hB : AllBare s.gens)
    (h : ∀ (S : Addr) vs own c' h' tk' gens', AllBare gens' → (S, listOf vs.toArray c') ∈ own → DatAll own vs (toldOf tx) → (∀ b o, b ≠ ta → s.heap.get? b = some o → h'.get? b = some o) → h'.get? ta = some (listOf (tvs ++ [Value.ref S]).toArray (nt + 1)) →
      (∀ p ∈ own, h'.get? p.1 = some p.2 ∧ s.heap.get? p.1 = none) → Q .next { s with heap := h', toks := tk', gens := gens' }) :
    wpAny (model prog w) (Ar dp un fr gd) (exec (nth lwBody 1) (lwEnv fa cd L)) Q E s := by
  dsimp only [lwBody, defAt, PySem.Challenge.pw_et5026_01, nth, fnBody, forBody, ifElse, ifThen, fnScope, lwEnv]
  have kMark := kdMark
  have N : News g L s.heap ((ta, listOf tvs.toArray nt) :: full g L s.heap) := nw_con full_news (full_mem hta taL gta)
  have hov := ov_of hm
  rw [hov] at F
  clear hm
  have Fs := And.intro trivial F
  w_on
  w_strict tb_start
  refine wpAny_call (tokens_code (h₀ := g) Fs.2.keep X T (by omega) (by omega) hfit hend ?_)
  intro l own2 h2 tk2 hDl hk2 ho2
  obtain ⟨us, nu, htl, hDu⟩ := datlist_inv hDl
  have F2 := Fs.2.keeps hk2
  have hta2 := hk2 _ _ hta
  have N2 : News g L h2 ((ta, listOf tvs.toArray nt) :: full g L h2) := nw_con full_news (full_mem hta2 taL gta)
  have F2s := And.intro trivial F2
  clear N
  dsimp only
  w_strict tb_start
  refine wpAny_call (gen_code (g := g) (L := L) F2s.2 X T (by omega) ?_)
  intro h3 I mg3 tk3 Fg htok hgen hIL hk3
  have F3 := F2s.2.keeps hk3
  have hta3 := hk3 _ _ hta2
  have N3 : News g L h3 ((ta, listOf tvs.toArray nt) :: full g L h3) := nw_con full_news (full_mem hta3 taL gta)
  have F3s := And.intro trivial F3
  have Fgs := And.intro trivial Fg
  clear N2 Fg

  dsimp only
  w_strict tb_start
  obtain ⟨rs, e1, e2, hok⟩ := recs hDu
  cases rs with
  | nil => exact absurd (by simpa using e1.symm) toks_ne
  | cons r0 rest =>
    have hul : us.length ≤ 1100 := by
      rw [e2, List.length_map]
      have e3 : (r0 :: rest).length = (toksOf tx).length := by rw [← e1, List.length_map]
      have := toks_len hfit
      omega
    have ht : (scanAll (rq (r0 :: rest))).map Tot = toldOf tx := told_eq e1
    have hDl' : (scanAll (rq (r0 :: rest))).length ≤ 1100 := by
      rw [← ht, List.length_map] at hmax
      exact hmax
    have l2 : ∀ b o, h2.get? b = some o → b ≠ h2.objs.size := fun b o e => Nat.ne_of_lt (Heap.lt_size e)
    have gno : ∀ hh : Heap, (∀ b o, g.get? b = some o → hh.get? b = some o) → g.get? hh.objs.size = none := fun hh k => by
      cases e : g.get? hh.objs.size with
      | none => rfl
      | some o => exact absurd (Heap.lt_size (k _ _ e)) (Nat.lt_irrefl _)
    refine told_list (L := h2.objs.size) (tl := l) (TL := own2) (us := us) (nt := nu) (r0 := r0) (rest := rest) Fgs.2 htok X T (by omega) (by omega) hgen hIL (Array.getElem?_push_size ..) (hB.push rfl)
      (fun p hp => ⟨hk3 _ _ (ho2 p hp).1, l2 _ _ (ho2 p hp).1, (new_off Fs.2 (ho2 p hp).2).2⟩) htl e2 hok hul hDl' ?_
    intro vs own h4 tk4 gens4 c4 hB4 hk4 hS4 hD4 ho4
    rw [ht] at hD4
    dsimp only at hk4 hS4 ho4
    have F4 := n1_ks F3s.2 (Nat.ne_of_gt F2s.2.ns.lt) (gno h2 F2s.2.keep) hk4
    have hta4 := hk4 _ _ (l2 _ _ hta2) hta3
    have N4 : News g L h4 ((ta, listOf tvs.toArray nt) :: full g L h4) := nw_con full_news (full_mem hta4 taL gta)
    clear N3
    dsimp only
    w_strict tb_start
    refine append_at hta4 (fun h5 sb5 hta5 => ?_) (by rw [List.size_toArray, PySem.sizeLine_eq]; omega)
    have taS : ta ≠ h3.objs.size := Nat.ne_of_lt (Heap.lt_size hta3)
    have hsn : s.heap.get? h3.objs.size = none := by
      cases e : s.heap.get? h3.objs.size with
      | none => rfl
      | some o => exact absurd (Heap.lt_size (hk3 _ _ (hk2 _ _ e))) (Nat.lt_irrefl _)
    refine h h3.objs.size vs ((h3.objs.size, listOf vs.toArray c4) :: own) c4 h5 _ gens4 hB4 (.head _) (DatAll.mono (fun p hp => .tail _ hp) hD4) (fun b o hb e => sb5.extBut b o hb (hk4 _ _ (l2 _ _ (hk2 _ _ e)) (hk3 _ _ (hk2 _ _ e)))) ?_ (fun p hp => ?_)
    · have e5 : (tvs ++ [Value.ref h3.objs.size]).toArray = tvs.toArray.push (Value.ref h3.objs.size) := by simp
      rw [e5]
      exact hta5
    · rcases List.mem_cons.mp hp with rfl | hp
      · exact ⟨sb5.extBut _ _ (Ne.symm taS) hS4, hsn⟩
      · obtain ⟨a1, a2, a3⟩ := ho4 p hp
        have hn : s.heap.get? p.1 = none := a3.elim (fun q => (ho2 p q).2) fun q => by
          cases e : s.heap.get? p.1 with
          | none => rfl
          | some o => exact absurd (q.symm.trans (hk3 _ _ (hk2 _ _ e))) (fun z => nomatch z)
        refine ⟨sb5.extBut _ _ (fun q => ?_) a1, hn⟩
        rw [q, hta] at hn
        cases hn
end
end Mine

end
section
open PySem PySem.W PySem.Calls PyProof.Rows
set_option Elab.async false
set_option maxRecDepth 100000
namespace Mine
theorem fillC3 : (PySem.Challenge.rw_et5026_01 = PySem.Challenge.rw_et5026_01) ∧ (∀ P, hd.heap_39 P = hd.heap_39 P) := by
  k_fill
  exact ⟨rfl, fun _ => rfl⟩
local macro_rules | `(tactic| tb_start) => `(tactic| repeat' ((fail_if_success (with_reducible show wpAny _ _ (call (Value.ref _) _) _ _ _)); (fail_if_success (with_reducible show wpAny _ _ (call (Value.type _) _) _ _ _)); (fail_if_success (with_reducible show wpAny _ _ (call (Value.builtin _) _) _ _ _)); (first | (k_unfold; (try dsimp only)) | (k_end; wrow_close) | walk1 | (dsimp only; walk1) | (leave1; walk_say "STEP leave1"; try dsimp only) | fail "no step")))

section
variable {prog : Program} {w : World} {fa : Addr} {cd : Value} {dp un : Nat} {fr : Option (List Env)} {gd : Option (List Code)} {s : Shared} {g : Heap} {mean : ExcName → Option Value} {mg mb : Str → Option Value} {L : Addr} {m : Str → Option Value}
theorem LB2 {da dl : Addr} {dvs : List Value} {nt : Nat} {Q : Flow → Shared → Prop} {E : Value → Shared → Prop} (X : (hd.heap_39 w.params).In g) (T : Top hd.view_39 (looseW hd.view_39 []) mean mg mb g)
    (F : Fr g L s.heap m) (hm : ∀ p ∈ ([(Str.ofString "due", .ref da), (Str.ofString "places", .ref dl)] : List (Str × Value)), m p.1 = some p.2)
    (hda : s.heap.get? da = some (listOf dvs.toArray nt)) (gda : g.get? da = none) (daL : da ≠ L) (hsz : dvs.length ≤ 10)
    (h : ∀ h' tk', (∀ b o, b ≠ da → s.heap.get? b = some o → h'.get? b = some o) → h'.get? da = some (listOf (dvs ++ [Value.ref dl]).toArray (nt + 1)) → Q .next { s with heap := h', toks := tk' }) :
    wpAny (model prog w) (Ar dp un fr gd) (exec (nth lwBody 2) (lwEnv fa cd L)) Q E s := by
  dsimp only [lwBody, defAt, PySem.Challenge.pw_et5026_01, nth, fnBody, forBody, ifElse, ifThen, fnScope, lwEnv]
  have kMark := kdMark
  have N : News g L s.heap ((da, listOf dvs.toArray nt) :: full g L s.heap) := nw_con full_news (full_mem hda daL gda)
  have hov := ov_of hm
  rw [hov] at F
  clear hm
  w_on
  w_strict tb_start
  refine append_at hda (fun h5 sb5 hda5 => ?_) (by rw [List.size_toArray, PySem.sizeLine_eq]; omega)
  refine h h5 _ (fun b o hb e => sb5.extBut b o hb e) ?_
  have e5 : (dvs ++ [Value.ref dl]).toArray = dvs.toArray.push (Value.ref dl) := by simp
  rw [e5]
  exact hda5
theorem LPre {scr : Addr} {vs : List Value} {ns : List Int} {Q : Shared → Prop} {E : Value → Shared → Prop} (X : (hd.heap_39 w.params).In g) (T : Top hd.view_39 (looseW hd.view_39 []) mean mg mb g)
    (F : Fr g L s.heap m) (hm : ∀ p ∈ ([(Str.ofString "script", .ref scr)] : List (Str × Value)), m p.1 = some p.2) (hl : s.heap.IsList scr vs.toArray) (hi : IntsAre vs ns) (hlen : ns.length ≤ 63) 
    (h : ∀ (st ta da sc : Addr) (t1 t2 : Tok) (vs' : List Value) (ns' : List Int) (h' : Heap) (tk' : Nat) (m' : Str → Option Value), Fr g L h' m' → m' (Str.ofString "state") = some (.ref st) → m' (Str.ofString "told") = some (.ref ta) → m' (Str.ofString "due") = some (.ref da) →
      News g L h' [(da, listOf #[] 0), (ta, listOf #[] 0), (st, listOf #[.ref sc, .int 0 t1, .int 17 t2] 0), (sc, listOf vs'.toArray 0)] → IntsAre vs' ns' → ns'.length ≤ 64 → sc < st → st < ta → ta < da → Q { s with heap := h', toks := tk' }) :
    wpAny (model prog w) (Ar dp un fr gd) (execs [lwS 0, lwS 1, lwS 2] (lwEnv fa cd L)) (fun f s' => f = .next ∧ Q s') E s := by
  dsimp only [lwS, lwBody, defAt, PySem.Challenge.pw_et5026_01, nth, fnBody, forBody, ifElse, ifThen, fnScope, lwEnv]
  have kMark := kdMark
  have N : News g L s.heap [] := fun _ h => nomatch h
  have hov := ov_of hm
  rw [hov] at F
  clear hm
  w_on
  w_strict k_steps
  all_goals (rename Fr _ _ _ _ => kF); (rename News _ _ _ _ => kN)
  rename IntsAre _ (List.take 60 ns) => kI
  rename (_ < _ ∧ _ < _ ∧ _ < _) => q3
  rename (_ < _ ∧ _ < _) => q2
  rename (_ < _) => q1
  exact h _ _ _ _ _ _ _ _ _ _ _ kF rfl rfl rfl kN kI (by rw [List.length_take]; omega) q1 q2.1 q3.1
end
end Mine

end
section
open PySem PySem.W PySem.Calls PyProof.Rows
set_option Elab.async false
set_option maxRecDepth 100000
namespace Mine
theorem fillC4 : (PySem.Challenge.rw_et5026_01 = PySem.Challenge.rw_et5026_01) ∧ (∀ P, hd.heap_39 P = hd.heap_39 P) := by
  k_fill
  exact ⟨rfl, fun _ => rfl⟩
local macro_rules | `(tactic| walk_at "call ref") => `(tactic| (k_here; (with_reducible show wpAny _ _ (call (Value.ref 28) _) _ _ _); k_dflt (refine' next_K ?F ?X ?T ?N ?U ?sc ?B ?m0 ?m1 ?dp ?un ?_; (case F => k_asm); (case X => k_asm); (case T => k_asm); (case N => k_asm); (case U => intro o'; k_upd); (case sc => first | assumption | exact Sc.keeps (Fr.keep (by k_asm)) (by assumption)); (case B => assumption); (case m0 => decide); (case m1 => decide); (case dp => (try dsimp only [Around.deeper, Ar]); omega); (case un => (try dsimp only [Around.deeper, Ar]); omega)); intro r' i' x' t' t1' t2' n' h' tk' h0' h1' B' F' N'; (try k_sweep)))
local macro_rules | `(tactic| walk_at "call type:range") => `(tactic| (k_here; (rename Fr _ _ _ _ => F'); (rename News _ _ _ _ => N'); (with_unfolding_all refine range1_rows F' N' ?_; intro _ _ _ _ _ _ _ _ _)))

section
variable {prog : Program} {w : World} {fa : Addr} {cd : Value} {dp un : Nat} {fr : Option (List Env)} {gd : Option (List Code)} {s : Shared} {g : Heap} {mean : ExcName → Option Value} {mg mb : Str → Option Value} {L : Addr} {m : Str → Option Value}
theorem LIter {st ta da sc : Addr} {t1 t2 : Tok} {vs' : List Value} {Q : Value → Shared → Prop} {E : Value → Shared → Prop} (X : (hd.heap_39 w.params).In g) (T : Top hd.view_39 (looseW hd.view_39 []) mean mg mb g) (hdp : dp + 60 < recursionLimit) (hun : un + 400 < cLine)
    (F : Fr g L s.heap m) (hm : ∀ p ∈ ([(Str.ofString "state", .ref st)] : List (Str × Value)), m p.1 = some p.2)
    (N : News g L s.heap [(da, listOf #[] 0), (ta, listOf #[] 0), (st, listOf #[.ref sc, .int 0 t1, .int 17 t2] 0), (sc, listOf vs'.toArray 0)]) (hSc : Sc s.heap sc) (l1 : sc < st) (l2 : st < ta ∧ sc < ta) (l3 : ta < da ∧ st < da ∧ sc < da)
    (h : ∀ (r : Addr) (nn : Int) (t u v t1' t2' : Tok) (i' x' : Int) (n' : Nat) (h' : Heap) (tk' : Nat), 1 ≤ nn → nn ≤ 3 → IsRange h' r 0 nn 1 t u v → Fr g L h' m → StF i' x' →
      News g L h' [(da, listOf #[] 0), (ta, listOf #[] 0), (st, listOf #[.ref sc, .int i' t1', .int x' t2'] n'), (sc, listOf vs'.toArray 0)] → Q (.ref r) { s with heap := h', toks := tk' }) :
    wpAny (model prog w) (Ar dp un fr gd) (eval (forIter (lwS 3)) (lwEnv fa cd L)) Q E s := by
  dsimp only [lwS, lwBody, defAt, PySem.Challenge.pw_et5026_01, nth, fnBody, forBody, ifElse, ifThen, fnScope, lwEnv, forIter]
  have kMark := kdMark
  have hov := ov_of hm
  rw [hov] at F h
  clear hm
  have B : StF 0 17 := ⟨by decide, by decide, by decide⟩
  have n1 : @Ne Nat sc st := Nat.ne_of_lt l1
  have n2 : @Ne Nat ta st := Nat.ne_of_gt l2.1
  have n3 : @Ne Nat da st := Nat.ne_of_gt l3.2.1
  have Fs := And.intro trivial F
  have Ns := And.intro trivial N
  w_on
  w_strict k_steps
  all_goals (rename Fr _ _ _ _ => kF); (rename News _ _ _ _ => kN)
  rename IsRange _ _ _ _ _ _ _ _ => kR
  rename StF _ _ => kB
  rename (0 : Int) ≤ _ => k0
  rename (_ : Int) < 3 => k3
  refine h _ _ _ _ _ _ _ _ _ _ _ _ ?_ ?_ kR kF kB kN <;> omega
end
end Mine

end
section
open PySem PySem.W PySem.Calls PyProof.Rows
set_option Elab.async false
set_option maxRecDepth 100000
namespace Mine
theorem fillC5 : (PySem.Challenge.rw_et5026_01 = PySem.Challenge.rw_et5026_01) ∧ (∀ P, hd.heap_39 P = hd.heap_39 P) := by
  k_fill
  exact ⟨rfl, fun _ => rfl⟩
structure LCore (g : Heap) (L st ta da sc it : Nat) (s0 : Shared) (left : Nat) (s : Shared) : Prop where
  sh : ∃ h tk gens, s = { s0 with heap := h, toks := tk, gens := gens }
  fr : ∃ m, Fr g L s.heap m ∧ m (Str.ofString "state") = some (.ref st) ∧ m (Str.ofString "told") = some (.ref ta) ∧ m (Str.ofString "due") = some (.ref da)
  stv : ∃ (i x : Int) (t1 t2 : Tok) (n : Nat), s.heap.get? st = some (listOf #[.ref sc, .int i t1, .int x t2] n) ∧ StF i x
  scv : Sc s.heap sc
  bare : AllBare s.gens
  vals : ∃ (tvs dvs : List Value) (nt nd : Nat) (ds : List Dat) (own : List (Addr × Obj)), s.heap.get? ta = some (listOf tvs.toArray nt) ∧ s.heap.get? da = some (listOf dvs.toArray nd) ∧ DatAll own tvs ds ∧ DatAll own dvs ds ∧
    (∀ p ∈ own, s.heap.get? p.1 = some p.2 ∧ @Ne Nat p.1 L ∧ @Ne Nat p.1 st ∧ @Ne Nat p.1 ta ∧ @Ne Nat p.1 da ∧ @Ne Nat p.1 it ∧ g.get? p.1 = none) ∧ tvs.length + left ≤ 3 ∧ dvs.length = tvs.length ∧ ∀ d ∈ ds, kqdOk 8 d = true
structure LApart (g : Heap) (L st ta da sc it : Nat) : Prop where
  a1 : st ≠ ta
  a2 : st ≠ da
  a3 : ta ≠ da
  b1 : st ≠ L
  b2 : ta ≠ L
  b3 : da ≠ L
  b4 : it ≠ L
  c1 : it ≠ st
  c2 : it ≠ ta
  c3 : it ≠ da
  c4 : it ≠ sc
  d1 : sc ≠ st
  d2 : sc ≠ ta
  d3 : sc ≠ da
  d4 : sc ≠ L
  g1 : g.get? st = none
  g2 : g.get? ta = none
  g3 : g.get? da = none
  g4 : g.get? it = none
def Plain : Prop := ∀ tx ds, RowS tx ds → toldOf tx = ds ∧ (∃ body, tx.cps.toList = body ++ [10]) ∧ tx.length ≤ 1000 ∧ kqdOk 8 (.list ds) = true ∧ ds.length ≤ 1100
theorem sc_but {h h' : Heap} {sc : Addr} (x : Sc h sc) (k : ∀ o, h.get? sc = some o → h'.get? sc = some o) : Sc h' sc := by
  obtain ⟨vs, ns, ⟨o, ho, r⟩, b, c⟩ := x
  exact ⟨vs, ns, ⟨o, k _ ho, r⟩, b, c⟩

section
variable {prog : Program} {w : World} {fa : Addr} {cd : Value} {dp un : Nat} {fr : Option (List Env)} {gd : Option (List Code)} {s s0 : Shared} {g : Heap} {mean : ExcName → Option Value} {mg mb : Str → Option Value} {L st ta da sc it : Nat}
theorem LCore.keep {left : Nat} (C : LCore g L st ta da sc it s0 left s) (P : LApart g L st ta da sc it) {h' : Heap} {tk : Nat} (k : ∀ (b : Nat) o, b ≠ it → b ≠ L → s.heap.get? b = some o → h'.get? b = some o) (F' : ∃ m, Fr g L h' m ∧ m (Str.ofString "state") = some (.ref st) ∧ m (Str.ofString "told") = some (.ref ta) ∧ m (Str.ofString "due") = some (.ref da)) :
    LCore g L st ta da sc it s0 left { s with heap := h', toks := tk } := by
  obtain ⟨⟨h, t, gens, e⟩, _, ⟨i, x, t1, t2, n, e1, B⟩, hsc, bare, tvs, dvs, nt, nd, ds, own, v1, v2, v3, v4, v5, v6, v7, v8⟩ := C
  refine ⟨⟨h', tk, gens, by rw [e]⟩, F', ⟨i, x, t1, t2, n, k _ _ (Ne.symm P.c1) P.b1 e1, B⟩, sc_but hsc (fun o => k _ _ (Ne.symm P.c4) P.d4), bare, tvs, dvs, nt, nd, ds, own, k _ _ (Ne.symm P.c2) P.b2 v1, k _ _ (Ne.symm P.c3) P.b3 v2, v3, v4, fun p hp => ?_, v6, v7, v8⟩
  obtain ⟨w1, w2, w3, w4, w5, w6, w7⟩ := v5 p hp
  exact ⟨k _ _ w6 w2 w1, w2, w3, w4, w5, w6, w7⟩

theorem law_loop (PL : Plain) (X : (hd.heap_39 w.params).In g) (T : Top hd.view_39 (looseW hd.view_39 []) mean mg mb g) (hdp : dp + 60 < recursionLimit) (hun : un + 400 < cLine) (P : LApart g L st ta da sc it) {px : Pos} {R : Result → Shared → Prop}
    (hR : ∀ s', LCore g L st ta da sc it s0 0 s' → R (.ok .next) s') (n : Nat) (c : Int) (hC : LCore g L st ta da sc it s0 n s) (hit : IsRangeIter s.heap it c n 1) :
    codeAny (model prog w) (Ar dp un fr gd) (.forLoop (.Name (Str.ofString "_") px) (.ref it) lwBody [] (lwEnv fa cd L)) R s := by
  refine codeAny_forLoop (fun n s => LCore g L st ta da sc it s0 n s ∧ ∃ c, IsRangeIter s.heap it c n 1) ?_ n ⟨hC, c, hit⟩
  clear hC hit
  rintro n s ⟨C, c, hit⟩
  obtain ⟨m, F, m1, m2, m3⟩ := C.fr
  cases n with
  | zero =>
    refine wpAny_pyNext_range_end rfl hit (by simp) fun h' hx => ?_
    refine wpAny_pure (hR _ ?_)
    exact C.keep P (tk := s.toks) (fun b o hb _ e => hx b o hb e) ⟨m, n1_ks F P.b4 P.g4 (fun b o hb e => hx b o hb e), m1, m2, m3⟩
  | succ n =>
    refine wpAny_pyNext_range_item hit (by omega) fun h1 hit1 sb1 => ?_
    have F1 : Fr g L h1 m := n1_ks F P.b4 P.g4 fun b o hb e => sb1.extBut b o hb e
    refine wpAny_assign_Name (wpAny_storeName_local rfl F1.ns fun h2 hn2 sb2 => ?_)
    have F2 := F1.set hn2 sb2
    have C2 := C.keep P (h' := h2) (tk := s.toks + 1 + 1) (fun b o hb hL e => sb2.extBut b o hL (sb1.extBut b o hb e)) ⟨_, F2, m1, m2, m3⟩
    have hit2 : IsRangeIter h2 it (c + 1) (n : Int) 1 := by
      have := sb2.extBut it _ P.b4 hit1
      have e2 : ((n + 1 : Nat) : Int) - 1 = (n : Int) := by omega
      rw [e2] at this
      exact this
    clear C F F1 hit hit1
    obtain ⟨⟨h, t, gens, e⟩, _, ⟨i, x, t1, t2, nn, e1, B⟩, hsc, bare, tvs, dvs, nt, nd, ds, own, v1, v2, v3, v4, v5, v6, v7, v8⟩ := C2
    have eb : lwBody = [nth lwBody 0, nth lwBody 1, nth lwBody 2] := rfl
    rw [eb]
    refine wpAny_execs_cons (LB0 (st := st) (sc := sc) X T hdp hun F2 (by intro p hp; rw [List.mem_singleton.mp hp]; exact m1) e1 P.g1 P.b1 hsc P.d1 B ?_)
    intro tx rs t' dl i' x' t1' t2' n' nd' ws own3 h3 tk3 m3' hRow hdl hDw B3 hk3 hst3 ho3 F3 q1 q2 q3
    obtain ⟨pe, ⟨body, hbody⟩, plen, pok, pmax⟩ := PL tx rs hRow
    have v1' := hk3 _ _ (Ne.symm P.a1) P.b2 v1
    have v2' := hk3 _ _ (Ne.symm P.a2) P.b3 v2
    have mt : m3' (Str.ofString "told") = some (.ref ta) := by rw [q3 _ (by decide) (by decide)]; exact m2
    have md : m3' (Str.ofString "due") = some (.ref da) := by rw [q3 _ (by decide) (by decide)]; exact m3
    have ms : m3' (Str.ofString "state") = some (.ref st) := by rw [q3 _ (by decide) (by decide)]; exact m1
    refine wpAny_execs_cons (LB1 (ta := ta) (tx := tx) (tt := t') X T hdp hun F3 (by
      intro p hp
      simp only [List.mem_cons, List.not_mem_nil, or_false] at hp
      rcases hp with rfl | rfl
      · exact mt
      · exact q1) v1' P.g2 P.b2 (by omega) plen hbody (by rw [pe]; exact pmax) bare ?_)
    intro S vs own4 c4 h4 tk4 gens4 hB4 hS4 hD4 hk4 hta4 ho4
    have F4 := n1_ks F3 (Ne.symm (Ne.symm P.b2)) P.g2 (fun b o hb e => hk4 b o hb e)
    have v2'' := hk4 _ _ (Ne.symm P.a3) v2'
    refine wpAny_execs_cons (LB2 (da := da) (dl := dl) X T F4 (by
      intro p hp
      simp only [List.mem_cons, List.not_mem_nil, or_false] at hp
      rcases hp with rfl | rfl
      · exact md
      · exact q2) v2'' P.g3 P.b3 (by omega) ?_)
    intro h5 tk5 hk5 hda5
    refine wpAny_pure ⟨n, Nat.lt_succ_self n, ⟨?_, c + 1, ?_⟩⟩
    · have F5 := n1_ks F4 (Ne.symm (Ne.symm P.b3)) P.g3 (fun b o hb e => hk5 b o hb e)
      have off : ∀ (b : Nat) o, h2.get? b = some o → b ≠ st → b ≠ ta → b ≠ da → b ≠ L → h5.get? b = some o := fun b o e h1 h2 h3 h4 => hk5 b o h3 (hk4 b o h2 (hk3 b o h1 h4 e))
      have someL : ∃ o, h2.get? L = some o := let ⟨o, _, _, e, _⟩ := F2.ns; ⟨o, e⟩
      have nw3 : ∀ (b : Nat), h2.get? b = none → b ≠ L ∧ b ≠ st ∧ b ≠ ta ∧ b ≠ da ∧ b ≠ it ∧ g.get? b = none := fun b hb => by
        refine ⟨?_, ?_, ?_, ?_, ?_, ?_⟩
        · rintro rfl; obtain ⟨o, e⟩ := someL; rw [hb] at e; cases e
        · rintro rfl; rw [hb] at e1; cases e1
        · rintro rfl; rw [hb] at v1; cases v1
        · rintro rfl; rw [hb] at v2; cases v2
        · rintro rfl; have := hb.symm.trans hit2; cases this
        · cases e : g.get? b with
          | none => rfl
          | some o => have := F2.keep _ _ e; rw [hb] at this; cases this
      refine ⟨⟨h5, tk5, gens4, ?_⟩, ⟨m3', F5, ms, mt, md⟩, ⟨i', x', t1', t2', n', hk5 _ _ P.a2 (hk4 _ _ P.a1 hst3), B3⟩, sc_but hsc (fun o e => off _ _ e P.d1 P.d2 P.d3 P.d4), hB4, tvs ++ [Value.ref S], dvs ++ [Value.ref dl], nt + 1, nd + 1, ds ++ [.list rs], own ++ (own3 ++ own4), hk5 _ _ P.a3 hta4, hda5, ?_, ?_, ?_, ?_, ?_, ?_⟩
      · have := congrArg (fun q : Shared => ({ q with heap := h5, toks := tk5, gens := gens4 } : Shared)) e
        exact this
      · refine DatAll.append (DatAll.mono (fun p hp => List.mem_append_left _ hp) v3) (DatAll.one ?_)
        rw [pe] at hD4
        exact DatIn.list (List.mem_append_right _ (List.mem_append_right _ hS4)) (DatAll.mono (fun p hp => List.mem_append_right _ (List.mem_append_right _ hp)) hD4)
      · refine DatAll.append (DatAll.mono (fun p hp => List.mem_append_left _ hp) v4) (DatAll.one ?_)
        exact DatIn.list (List.mem_append_right _ (List.mem_append_left _ hdl)) (DatAll.mono (fun p hp => List.mem_append_right _ (List.mem_append_left _ hp)) hDw)
      · intro p hp
        rcases List.mem_append.mp hp with hp | hp
        · obtain ⟨w1, w2, w3, w4, w5, w6, w7⟩ := v5 p hp
          exact ⟨off _ _ w1 w3 w4 w5 w2, w2, w3, w4, w5, w6, w7⟩
        rcases List.mem_append.mp hp with hp | hp
        · have z := ho3 p hp
          obtain ⟨w2, w3, w4, w5, w6, w7⟩ := nw3 _ z.2
          exact ⟨hk5 _ _ w5 (hk4 _ _ w4 z.1), w2, w3, w4, w5, w6, w7⟩
        · have z := ho4 p hp
          have zn : h2.get? p.1 = none := by
            cases e : h2.get? p.1 with
            | none => rfl
            | some o =>
              by_cases hst' : p.1 = st
              · have := z.2; rw [hst', hst3] at this; cases this
              by_cases hL' : p.1 = L
              · obtain ⟨o, _, _, e', _⟩ := F3.ns; have := z.2; rw [hL', e'] at this; cases this
              have := z.2; rw [hk3 _ _ hst' hL' e] at this; cases this
          obtain ⟨w2, w3, w4, w5, w6, w7⟩ := nw3 _ zn
          exact ⟨hk5 _ _ w5 z.1, w2, w3, w4, w5, w6, w7⟩
      · rw [List.length_append, List.length_singleton]; omega
      · rw [List.length_append, List.length_append, v7]; rfl
      · intro d hd
        rcases List.mem_append.mp hd with hd | hd
        · exact v8 d hd
        · rw [List.mem_singleton.mp hd]; exact pok
    · exact hk5 _ _ P.c3 (hk4 _ _ P.c2 (hk3 _ _ P.c1 P.b4 hit2))
end
end Mine

end
section
open PySem PySem.W PySem.Calls PyProof.Rows
set_option Elab.async false
set_option maxRecDepth 100000
namespace Mine
theorem fillC6 : (PySem.Challenge.rw_et5026_01 = PySem.Challenge.rw_et5026_01) ∧ (∀ P, hd.heap_39 P = hd.heap_39 P) := by
  k_fill
  exact ⟨rfl, fun _ => rfl⟩
local macro_rules | `(tactic| tb_start) => `(tactic| repeat' ((fail_if_success (with_reducible show wpAny _ _ (compareOp _ _ _) _ _ _)); (first | (k_unfold; (try dsimp only)) | (k_end; wrow_close) | walk1 | (dsimp only; walk1) | (leave1; walk_say "STEP leave1"; try dsimp only) | fail "no step")))
section
variable {prog : Program} {w : World} {fa : Addr} {cd : Value} {dp un : Nat} {fr : Option (List Env)} {gd : Option (List Code)} {s s0 : Shared} {g : Heap} {mean : ExcName → Option Value} {mg mb : Str → Option Value} {L st ta da sc it : Nat} {m : Str → Option Value}
theorem LRet {tvs dvs : List Value} {nt nd : Nat} {Q : Flow → Shared → Prop} {E : Value → Shared → Prop} (X : (hd.heap_39 w.params).In g) (T : Top hd.view_39 (looseW hd.view_39 []) mean mg mb g) (hun : un + 400 < cLine)
    (F : Fr g L s.heap m) (hm : ∀ p ∈ ([(Str.ofString "told", .ref ta), (Str.ofString "due", .ref da)] : List (Str × Value)), m p.1 = some p.2)
    (hta : s.heap.get? ta = some (listOf tvs.toArray nt)) (hda : s.heap.get? da = some (listOf dvs.toArray nd)) (gta : g.get? ta = none) (gda : g.get? da = none) (taL : ta ≠ L) (daL : da ≠ L)
    {ds : List Dat} {own : List (Addr × Obj)} (d1 : DatAll own tvs ds) (d2 : DatAll own dvs ds) (ho : ∀ p ∈ own, s.heap.get? p.1 = some p.2 ∧ p.1 ≠ L ∧ g.get? p.1 = none) (ok : ∀ d ∈ ds, kqdOk 8 d = true)
    (h : ∀ tk', Q (.ret (.bool true)) { s with toks := tk' }) :
    wpAny (model prog w) (Ar dp un fr gd) (exec (lwS 4) (lwEnv fa cd L)) Q E s := by
  dsimp only [lwS, lwBody, defAt, PySem.Challenge.pw_et5026_01, nth, fnBody, forBody, ifElse, ifThen, fnScope, lwEnv]
  have kMark := kdMark
  have N : News g L s.heap ((ta, listOf tvs.toArray nt) :: (da, listOf dvs.toArray nd) :: full g L s.heap) := nw_con (nw_con full_news (full_mem hda daL gda)) (.tail _ (full_mem hta taL gta))
  have Ns := And.intro trivial N
  have hov := ov_of hm
  rw [hov] at F
  clear hm
  w_on
  w_strict tb_start
  refine kqd_eq Ns.2 (.head _) rfl rfl d1 (fun p hp => .tail _ (.tail _ (full_mem (ho p hp).1 (ho p hp).2.1 (ho p hp).2.2))) (.tail _ (.head _)) rfl rfl d2 (fun p hp => .tail _ (.tail _ (full_mem (ho p hp).1 (ho p hp).2.1 (ho p hp).2.2))) ok ok (by show un + 64 < cLine; omega) ?_
  have e : ∀ i : Decidable (ds = ds), @decide (ds = ds) i = true := fun i => @decide_eq_true _ i rfl
  rw [e]
  exact h _

theorem law_run (PL : Plain) {scr : Addr} {vs : List Value} {ns : List Int} {Q : Flow → Shared → Prop} {E : Value → Shared → Prop} (X : (hd.heap_39 w.params).In g) (T : Top hd.view_39 (looseW hd.view_39 []) mean mg mb g) (hdp : dp + 60 < recursionLimit) (hun : un + 400 < cLine)
    (F : Fr g L s.heap m) (hm : m (Str.ofString "script") = some (.ref scr)) (hl : s.heap.IsList scr vs.toArray) (hi : IntsAre vs ns) (hlen : ns.length ≤ 63) (hB : AllBare s.gens)
    (h : ∀ h' tk' gens' m', AllBare gens' → Fr g L h' m' → Q (.ret (.bool true)) { s with heap := h', toks := tk', gens := gens' }) :
    wpAny (model prog w) (Ar dp un fr gd) (execs (fnBody (defAt 7)) (lwEnv fa cd L)) Q E s := by
  rw [show execs (fnBody (defAt 7)) (lwEnv fa cd L) = execs ([lwS 0, lwS 1, lwS 2] ++ [lwS 3, lwS 4]) (lwEnv fa cd L) from rfl, execs_app]
  refine wpAny_bind (wpAny_mono (LPre (scr := scr) (vs := vs) (ns := ns) X T F (by intro p hp; rw [List.mem_singleton.mp hp]; exact hm) hl hi hlen (Q := fun s' => wpAny (model prog w) (Ar dp un fr gd) (execs [lwS 3, lwS 4] (lwEnv fa cd L)) Q E s') ?_) (fun f s' q => by obtain ⟨rfl, q⟩ := q; exact q) fun _ _ x => x)
  intro st ta da sc t1 t2 vs' ns' h1 tk1 m1 F1 q1 q2 q3 N1 hi' hlen' l1 l2 l3
  obtain ⟨px, pp, e3⟩ : ∃ px pp, lwS 3 = .For (.Name (Str.ofString "_") px) (forIter (lwS 3)) lwBody [] pp := ⟨_, _, rfl⟩
  have hSc : Sc h1 sc := ⟨vs', ns', ⟨_, (N1 _ (.tail _ (.tail _ (.tail _ (.head _))))).1, rfl, 0, rfl⟩, hi', hlen'⟩
  refine wpAny_execs_cons ?_
  rw [e3]
  refine wpAny_For ?_
  refine LIter X T hdp hun F1 (by intro p hp; rw [List.mem_singleton.mp hp]; exact q1) N1 hSc l1 ⟨l2, Nat.lt_trans l1 l2⟩ ⟨l3, Nat.lt_trans l2 l3, Nat.lt_trans l1 (Nat.lt_trans l2 l3)⟩ ?_
  intro r nn t u v t1' t2' i' x' n' h2 tk2 hn1 hn3 hR F2 B2 N2
  have hsm : Builtin.Range.small 0 nn 1 = true := small_one (by omega) (by omega) (by omega) (by omega)
  refine wpAny_pyIter_range hR hsm ?_
  have pk : ∀ (o : Obj) b x, h2.get? b = some x → (h2.push o).get? b = some x := fun o b x e => Heap.get?_push_of_some _ e
  have nda := N2 _ (.head _)
  have nta := N2 _ (.tail _ (.head _))
  have nst := N2 _ (.tail _ (.tail _ (.head _)))
  have nsc := N2 _ (.tail _ (.tail _ (.tail _ (.head _))))
  have git : g.get? h2.objs.size = none := by
    cases e : g.get? h2.objs.size with
    | none => rfl
    | some o => exact absurd (Heap.lt_size (F2.keep _ _ e)) (Nat.lt_irrefl _)
  have P : LApart g L st ta da sc h2.objs.size := ⟨Nat.ne_of_lt l2, Nat.ne_of_lt (Nat.lt_trans l2 l3), Nat.ne_of_lt l3, nst.2.1, nta.2.1, nda.2.1, Nat.ne_of_gt F2.ns.lt, Nat.ne_of_gt (Heap.lt_size nst.1), Nat.ne_of_gt (Heap.lt_size nta.1), Nat.ne_of_gt (Heap.lt_size nda.1), Nat.ne_of_gt (Heap.lt_size nsc.1),
    Nat.ne_of_lt l1, Nat.ne_of_lt (Nat.lt_trans l1 l2), Nat.ne_of_lt (Nat.lt_trans l1 (Nat.lt_trans l2 l3)), nsc.2.1, nst.2.2, nta.2.2, nda.2.2, git⟩
  refine law_loop (s0 := s) PL X T hdp hun P (fun s' C => ?_) nn.toNat 0 ?_ ?_
  · show wpAny (model prog w) (Ar dp un fr gd) (execs [lwS 4] (lwEnv fa cd L)) Q E s'
    obtain ⟨⟨h', tk, gens, rfl⟩, ⟨m', F', _, z2, z3⟩, _, _, bare, tvs, dvs, nt, nd, ds, own, v1, v2, v3, v4, v5, v6, v7, v8⟩ := C
    refine wpAny_execs_cons (LRet (ta := ta) (da := da) X T hun F' (by
      intro p hp
      simp only [List.mem_cons, List.not_mem_nil, or_false] at hp
      rcases hp with rfl | rfl
      · exact z2
      · exact z3) v1 v2 P.g2 P.g3 P.b2 P.b3 v3 v4 (fun p hp => let ⟨w1, w2, _, _, _, _, w7⟩ := v5 p hp; ⟨w1, w2, w7⟩) v8 fun tk' => ?_)
    exact h h' tk' gens m' bare F'
  · refine ⟨⟨_, _, _, rfl⟩, ⟨m1, F2.push _, q1, q2, q3⟩, ⟨i', x', t1', t2', n', pk _ _ _ nst.1, B2⟩, ⟨vs', ns', ⟨_, pk _ _ _ nsc.1, rfl, 0, rfl⟩, hi', hlen'⟩, hB, [], [], 0, 0, [], [], pk _ _ _ nta.1, pk _ _ _ nda.1, .nil, .nil, (fun _ h => nomatch h), ?_, rfl, (fun _ h => nomatch h)⟩
    simp only [List.length_nil]
    omega
  · have e1 : Builtin.Range.rangeSize 0 nn 1 = ((nn.toNat : Nat) : Int) := by rw [rangeSize_nat]; simp
    show IsRangeIter _ _ _ _ _
    rw [← e1]
    exact Heap.get?_push_size _ rfl
end
end Mine

end
section
open PySem PySem.W PySem.Calls PyProof.Rows
set_option Elab.async false
set_option maxRecDepth 100000
namespace Mine
set_option maxHeartbeats 8000000
set_option pp.maxSteps 20000
set_option pp.deepTerms false
theorem t1 (PL : Plain) : PySem.Challenge.rw_et5026_01.Holds := hd (by
  k_fill
  intro w s₀ s₁ mg mb G Y fa o pm cd doc dV kV ho hd hcd hD hmg hg args vals as hpre hlay hrd hwl hlo
  have KX := kIn_of Y
  have X := (Ground.X G).1
  have V := (Ground.X G).2
  refine Ground.open G ?_
  intro T B D TE TW
  try (refine guard_noD D (by decide +kernel) ?_; clear D)
  obtain ⟨_, _, M⟩ := bmod_of_top T
  have TA := at_of_top T
  try (obtain ⟨_, _, he, B0⟩ := based_of_top T rfl hmg ho hd; have he' : cd = _ := he; subst he'; clear he)
  clear hmg
  wrow_args hpre hlay hrd hwl hlo
  all_goals (
    refine enter_call ?_
    w_top on
    have K0 := below_caller (Top.heap T)
    w_call any ho hd hcd hD T F
    clear hd TA
    k_drop
    skip)
  rename Top _ _ _ _ _ _ => kT
  rename Fr _ _ _ _ => kF
  rename IntsAre _ _ => kI
  rename Heap.IsList _ _ _ => kL
  rename (¬ _ < _) => kC
  refine law_run (dp := _) (un := _) (fr := _) (gd := _) PL KX kT (by decide) (by decide) kF rfl (Fr.lst kF kL) kI (by omega) (.of_eq hg) ?_
  intro h' tk' gens' m' hb F'
  refine ⟨.inl ⟨_, _, [], rfl, fun _ => rfl, ReadsW.bool true, ?_, fun _ => ⟨List.nodup_nil, fun _ hm => nomatch hm⟩⟩, .of_keep F'.keep, rfl, hb⟩
  wrow_post)
end Mine

end
section
open PySem PySem.W PySem.Calls PyProof.Rows
set_option Elab.async false
set_option maxRecDepth 100000
namespace Mine
/-- the tokens, with fuel: it can be run -/
def tksF : Nat → List Nat → Nat → List Tk
  | 0, _, _ => []
  | n + 1, cs, k => match cs with
    | c :: d :: r =>
      if c = 32 then tksF n (d :: r) (k + 1)
      else if isTwo c d = true then ⟨54, ⟨#[c, d]⟩, k, k + 2⟩ :: tksF n r (k + 2)
      else if Unicode.isAlnum c = true then ⟨1, ⟨(c :: (d :: r).take (run (d :: r))).toArray⟩, k, k + 1 + run (d :: r)⟩ :: tksF n ((d :: r).drop (run (d :: r))) (k + 1 + run (d :: r))
      else ⟨54, ⟨#[c]⟩, k, k + 1⟩ :: tksF n (d :: r) (k + 1)
    | _ => []
theorem tksF_eq : ∀ (n : Nat) (cs : List Nat) (k : Nat), cs.length ≤ n → tksF n cs k = tks cs k
  | 0, cs, k, h => by rw [tks_short (by omega)]; rfl
  | n + 1, cs, k, h => by
    match cs with
    | [] => rw [tks_nil]; rfl
    | [c] => rw [tks_last]; rfl
    | c :: d :: r =>
      simp only [List.length_cons] at h
      unfold tksF
      dsimp only
      by_cases h32 : c = 32
      · subst h32
        rw [if_pos rfl, tks_space]
        exact tksF_eq n _ _ (by simp only [List.length_cons]; omega)
      rw [if_neg h32]
      cases h2 : isTwo c d with
      | true =>
        rw [if_pos rfl, tks_two h32 h2, tksF_eq n r _ (by omega)]
      | false =>
        rw [if_neg Bool.false_ne_true]
        cases h3 : Unicode.isAlnum c with
        | true =>
          rw [if_pos rfl, tks_alnum h32 h2 h3, tksF_eq n _ _ (by rw [List.length_drop, List.length_cons]; omega)]
        | false =>
          rw [if_neg Bool.false_ne_true, tks_one h32 h2 h3, tksF_eq n _ _ (by simp only [List.length_cons]; omega)]
def sh (j : Nat) (t : Tk) : Tk := ⟨t.kind, t.text, t.b + j, t.e + j⟩
theorem tksF_shift (j : Nat) : ∀ (n : Nat) (cs : List Nat) (k : Nat), tksF n cs (k + j) = (tksF n cs k).map (sh j)
  | 0, _, _ => rfl
  | n + 1, cs, k => by
    match cs with
    | [] => rfl
    | [c] => rfl
    | c :: d :: r =>
      unfold tksF
      dsimp only
      have e1 : k + j + 1 = k + 1 + j := by omega
      have e2 : k + j + 2 = k + 2 + j := by omega
      have e3 : k + 1 + j + run (d :: r) = k + 1 + run (d :: r) + j := by omega
      rw [e1, e2, e3]
      rw [tksF_shift j n, tksF_shift j n, tksF_shift j n]
      split
      · rfl
      split
      · rfl
      split
      · rfl
      · rfl
theorem tks_shift (cs : List Nat) (j : Nat) : tks cs j = (tks cs 0).map (sh j) := by
  rw [← tksF_eq cs.length cs j (Nat.le_refl _), ← tksF_eq cs.length cs 0 (Nat.le_refl _), ← tksF_shift j, Nat.zero_add]

/-- nothing grows together over the border -/
def apart : List Nat → Nat → Bool
  | [], _ => true
  | [a], c => !isTwo a c && !(Unicode.isAlnum a && Unicode.isAlnum c)
  | _ :: b :: r, c => apart (b :: r) c
theorem alnum10 : Unicode.isAlnum 10 = false := by decide +kernel
theorem run_over : ∀ (Q : List Nat) (c : Nat) (R : List Nat), Q ≠ [] → apart Q c = true → run (Q ++ c :: R) = run (Q ++ [10]) ∧ run (Q ++ [10]) ≤ Q.length
  | [a], c, R, _, h => by
    simp only [apart, Bool.and_eq_true, Bool.not_eq_true', Bool.and_eq_false_iff] at h
    show run (a :: c :: R) = run (a :: [10]) ∧ _
    rw [run, run]
    cases ha : Unicode.isAlnum a with
    | false => simp [run, ha]
    | true =>
      have hc : Unicode.isAlnum c = false := by
        rcases h.2 with h | h
        · rw [ha] at h; cases h
        · exact h
      simp [run, hc, alnum10, ha]
  | a :: b :: r, c, R, _, h => by
    have ih := run_over (b :: r) c R (by simp) h
    show run (a :: ((b :: r) ++ c :: R)) = run (a :: ((b :: r) ++ [10])) ∧ run (a :: ((b :: r) ++ [10])) ≤ _
    rw [run, run]
    rw [ih.1]
    cases Unicode.isAlnum a with
    | false => simp
    | true => simp only [if_pos, List.length_cons]; exact ⟨trivial, by have := ih.2; simp only [List.length_cons] at this; omega⟩
theorem apart_drop : ∀ (Q : List Nat) (c j : Nat), apart Q c = true → apart (Q.drop j) c = true
  | Q, c, 0, h => h
  | [], c, j + 1, h => by simp [apart]
  | [a], c, j + 1, h => by simp [apart]
  | a :: b :: r, c, j + 1, h => by rw [List.drop_succ_cons]; exact apart_drop (b :: r) c j h
theorem tks_app : ∀ (n : Nat) (P : List Nat) (c : Nat) (R : List Nat) (k : Nat), P.length ≤ n → apart P c = true → tks (P ++ c :: R) k = tks (P ++ [10]) k ++ tks (c :: R) (k + P.length)
  | n, [], c, R, k, _, _ => by
    show tks (c :: R) k = tks [10] k ++ tks (c :: R) (k + 0)
    rw [tks_last]; rfl
  | 0, a :: P, c, R, k, h, _ => by simp at h
  | n + 1, [a], c, R, k, _, h => by
    show tks (a :: c :: R) k = tks (a :: [10]) k ++ tks (c :: R) (k + 1)
    by_cases h32 : a = 32
    · subst h32
      rw [tks_space, tks_space, tks_last]; rfl
    simp only [apart, Bool.and_eq_true, Bool.not_eq_true', Bool.and_eq_false_iff] at h
    have t10 : isTwo a 10 = false := by simp [isTwo]
    cases ha : Unicode.isAlnum a with
    | true =>
      have hc : Unicode.isAlnum c = false := by
        rcases h.2 with h | h
        · rw [ha] at h; cases h
        · exact h
      rw [tks_alnum h32 h.1 ha, tks_alnum h32 t10 ha]
      have r1 : run (c :: R) = 0 := by simp [run, hc]
      have r2 : run [10] = 0 := by simp [run, alnum10]
      rw [r1, r2]
      simp [tks_last]
    | false =>
      rw [tks_one h32 h.1 ha, tks_one h32 t10 ha, tks_last]
      rfl
  | n + 1, a :: b :: r, c, R, k, hn, h => by
    have hb : apart (b :: r) c = true := h
    simp only [List.length_cons] at hn
    show tks (a :: b :: (r ++ c :: R)) k = tks (a :: b :: (r ++ [10])) k ++ tks (c :: R) (k + (r.length + 1 + 1))
    by_cases h32 : a = 32
    · subst h32
      rw [tks_space, tks_space]
      have := tks_app n (b :: r) c R (k + 1) (by simp only [List.length_cons]; omega) hb
      simp only [List.cons_append, List.length_cons] at this
      rw [this]
      congr 2
      omega
    cases h2 : isTwo a b with
    | true =>
      rw [tks_two h32 h2, tks_two h32 h2]
      have := tks_app n r c R (k + 2) (by omega) (apart_drop (b :: r) c 1 hb)
      rw [this, List.cons_append]
      congr 3
      omega
    | false =>
      cases ha : Unicode.isAlnum a with
      | true =>
        rw [tks_alnum h32 h2 ha, tks_alnum h32 h2 ha]
        have ro := run_over (b :: r) c R (by simp) hb
        simp only [List.cons_append] at ro
        rw [ro.1]
        have hle := ro.2
        generalize hj : run (b :: (r ++ [10])) = j at hle
        have d1 : (b :: (r ++ c :: R)).drop j = (b :: r).drop j ++ c :: R := by
          rw [← List.cons_append, List.drop_append_of_le_length hle]
        have d2 : (b :: (r ++ [10])).drop j = (b :: r).drop j ++ [10] := by
          rw [← List.cons_append, List.drop_append_of_le_length hle]
        have t1 : (b :: (r ++ c :: R)).take j = (b :: r).take j := by
          rw [← List.cons_append, List.take_append_of_le_length hle]
        have t2 : (b :: (r ++ [10])).take j = (b :: r).take j := by
          rw [← List.cons_append, List.take_append_of_le_length hle]
        rw [d1, d2, t1, t2]
        have := tks_app n ((b :: r).drop j) c R (k + 1 + j) (by rw [List.length_drop, List.length_cons]; omega) (apart_drop _ _ _ hb)
        rw [this, List.cons_append, List.length_drop, List.length_cons]
        simp only [List.length_cons] at hle
        congr 3
        omega
      | false =>
        rw [tks_one h32 h2 ha, tks_one h32 h2 ha]
        have := tks_app n (b :: r) c R (k + 1) (by simp only [List.length_cons]; omega) hb
        simp only [List.cons_append, List.length_cons] at this
        rw [this, List.cons_append]
        congr 3
        omega
end Mine

end
section
open PySem PySem.W PySem.Calls PyProof.Rows
set_option Elab.async false
set_option maxRecDepth 100000
namespace Mine
def hdT {α : Type} : List (Str × α) → Str → Str
  | [], nh => nh
  | t :: _, _ => t.1
theorem hdT_map {α β : Type} (f : α → β) (l : List (Str × α)) (nh : Str) : hdT (mq f l) nh = hdT l nh := by cases l <;> rfl
def runP {α : Type} (v : SX α) : List (Str × α) → Str → List (α × Str) × SX α
  | [], _ => ([], v)
  | t :: r, nh => let q := runP (next v t.1 t.2) r nh; (tells v t.1 t.2 (some (hdT r nh)) ++ q.1, q.2)
theorem scan_run {α : Type} : ∀ (l r : List (Str × α)) (v : SX α) (nh : Str), r.head?.map (·.1) = some nh → scan v (l ++ r) = (runP v l nh).1 ++ scan (runP v l nh).2 r
  | [], _, _, _, _ => rfl
  | [t], r, v, nh, h => by
    show tells v t.1 t.2 (r.head?.map (·.1)) ++ scan (next v t.1 t.2) r = (tells v t.1 t.2 (some nh) ++ []) ++ scan (next v t.1 t.2) r
    rw [h, List.append_nil]
  | t :: t' :: l, r, v, nh, h => by
    have ih := scan_run (t' :: l) r (next v t.1 t.2) nh h
    show tells v t.1 t.2 (some t'.1) ++ scan (next v t.1 t.2) (t' :: l ++ r) = (tells v t.1 t.2 (some t'.1) ++ (runP (next v t.1 t.2) (t' :: l) nh).1) ++ _
    rw [ih, List.append_assoc]
    rfl
theorem run_map {α β : Type} (f : α → β) : ∀ (l : List (Str × α)) (v : SX α) (nh : Str), runP (v.map f) (mq f l) nh = (mp f (runP v l nh).1, (runP v l nh).2.map f)
  | [], _, _ => rfl
  | t :: r, v, nh => by
    have ih := run_map f r (next v t.1 t.2) nh
    show (tells (v.map f) t.1 (f t.2) (some (hdT (mq f r) nh)) ++ (runP ((next v t.1 t.2).map f) (mq f r) nh).1, (runP ((next v t.1 t.2).map f) (mq f r) nh).2) = _
    rw [ih, hdT_map, tells_map]
    simp only [runP, mp, List.map_append]
/-- the pieces' items, positions from the piece's own beginning -/
def itF (P : List Nat) : List (Str × Nat) := (tksF (P.length + 1) (P ++ [10]) 0).map fun t => (t.text, t.b)
def its (cs : List Nat) (k : Nat) : List (Str × Nat) := (tks cs k).map fun t => (t.text, t.b)
theorem its_app {P : List Nat} {c : Nat} {R : List Nat} {k : Nat} (h : apart P c = true) : its (P ++ c :: R) k = mq (· + k) (itF P) ++ its (c :: R) (k + P.length) := by
  unfold its itF
  rw [tks_app _ P c R k (Nat.le_refl _) h, List.map_append, tks_shift (P ++ [10]) k, tksF_eq _ _ _ (by rw [List.length_append, List.length_singleton]; exact Nat.le_refl _)]
  simp [mq, sh, List.map_map, Function.comp_def]
def itO (P : List Nat) : List (Str × Option Nat) := mq some (itF P)
theorem itO_map (P : List Nat) (k pv : Nat) : mq (fun o : Option Nat => match o with | none => pv | some j => j + k) (itO P) = mq (· + k) (itF P) := by
  unfold itO
  simp [mq, List.map_map, Function.comp_def]
end Mine

end
section
open PySem PySem.W PySem.Calls PyProof.Rows
set_option Elab.async false
set_option maxRecDepth 100000
namespace Mine
def comma : Str := Str.ofString ","
def starsU : List Str := [Str.ofString "", Str.ofString "*", Str.ofString "**"]
def nameU : List Str := [Str.ofString "l", Str.ofString "O", Str.ofString "I", Str.ofString "a", Str.ofString "b", Str.ofString "ab"]
/-- what stands behind the first sign of a type, of a default -/
def typeR : List Str := [Str.ofString " int", Str.ofString " l", Str.ofString " x[I]", Str.ofString " y.O"]
def dfltR : List Str := [Str.ofString "1", Str.ofString " 2", Str.ofString "x[1:5]", Str.ofString "a.I", Str.ofString "l", Str.ofString "[l]", Str.ofString "x[O]", Str.ofString "{1: l}"]
structure Cfg where
  b1 : Bool
  b2 : Bool
  D : Int
  B : Int
  st : List (Str × Option Int)
def cD : Cfg := ⟨true, false, 0, 1, [(Str.ofString "(", some 0), (Str.ofString ",", some 0)]⟩
def cL : Cfg := ⟨false, true, 0, 0, [(Str.ofString "lambda", none), (Str.ofString ",", some 0)]⟩
def cC : Cfg := ⟨false, false, 1, 1, [(Str.ofString "lambda", none), (Str.ofString ",", some 1)]⟩
def okEnd (c : Cfg) (v : SX (Option Nat)) : Bool := decide (v.pt ∉ dlT) && decide (v.fd = some c.D) && (v.sc == false) && decide (v.bd = c.B)
def dueO (o : Nat) (b : Str) : List (Option Nat × Str) := if b ∈ hardT then [(some o, e741 b)] else []
def chk1 (g : Cfg) (s : Str × Option Int) (a b : Str) : Bool :=
  let q := runP (⟨s.1, none, s.2, false, g.B⟩ : SX (Option Nat)) (itO (a.cps.toList ++ b.cps.toList)) comma
  decide (q.1 = dueO a.cps.toList.length b) && okEnd g q.2 && decide (q.2.pt = b)
def chkR (g : Cfg) (p : Str) (r : Str) : Bool :=
  let q := runP (⟨p, none, some g.D, false, g.B⟩ : SX (Option Nat)) (itO r.cps.toList) comma
  q.1.isEmpty && okEnd g q.2
def all1 (g : Cfg) : Bool := g.st.all fun s => starsU.all fun a => nameU.all fun b => chk1 g s a b
theorem all1L : all1 cL = true := by decide +kernel
theorem all1C : all1 cC = true := by decide +kernel
theorem all1D : all1 cD = true := by decide +kernel
theorem typesD : (typeR.all fun r => chkR cD (Str.ofString ":") r) = true := by decide +kernel
theorem dfltsD : (dfltR.all fun r => chkR cD (Str.ofString "=") r) = true := by decide +kernel
theorem dfltsL : (dfltR.all fun r => chkR cL (Str.ofString "=") r) = true := by decide +kernel
theorem dfltsC : (dfltR.all fun r => chkR cC (Str.ofString "=") r) = true := by decide +kernel
end Mine

end
section
open PySem PySem.W PySem.Calls PyProof.Rows
set_option Elab.async false
set_option maxRecDepth 100000
namespace Mine
section
variable {α : Type} {v : SX α} {tx : Str} {sv : α}
theorem tells_soft {nx : Option Str} (h : tx ∉ hardT) (h4 : id4 v tx = none) : tells v tx sv nx = [] := by
  have e1 : tellC v tx sv = [] := if_neg fun q => h q.2
  have e2 : tellD v tx sv = [] := if_neg fun q => h q.2
  have e5 : id5 v tx sv = none := by unfold id5; rw [if_neg fun q => h q.2, h4]
  have e6 : id6 v tx sv nx = none := by unfold id6; rw [if_neg fun q => h q.2.2.2.2, e5]
  unfold tells tellI
  rw [e1, e2, e6]
  rfl
theorem tells_nx {n n' : Str} (h : occs nxT n = occs nxT n') : tells v tx sv (some n) = tells v tx sv (some n') := by
  have e : id6 v tx sv (some n) = id6 v tx sv (some n') := by
    unfold id6
    have : (∃ m, some n = some m ∧ occs nxT m = false) ↔ (∃ m, some n' = some m ∧ occs nxT m = false) :=
      ⟨fun ⟨m, e, q⟩ => by cases e; exact ⟨n', rfl, h ▸ q⟩, fun ⟨m, e, q⟩ => by cases e; exact ⟨n, rfl, h ▸ q⟩⟩
    by_cases c : fd2 v ≠ none ∧ sc2 v tx = false ∧ (∃ m, some n = some m ∧ occs nxT m = false) ∧ v.pt ∈ plT ∧ tx ∈ hardT
    · rw [if_pos c, if_pos ⟨c.1, c.2.1, this.mp c.2.2.1, c.2.2.2⟩]
    · rw [if_neg c, if_neg fun q => c ⟨q.1, q.2.1, this.mpr q.2.2.1, q.2.2.2⟩]
  unfold tells tellI
  rw [e]
theorem run_nx {n n' : Str} (h : occs nxT n = occs nxT n') : ∀ (l : List (Str × α)) (v : SX α), runP v l n = runP v l n'
  | [], _ => rfl
  | [t], v => by
    show (tells v t.1 t.2 (some n) ++ [], next v t.1 t.2) = (tells v t.1 t.2 (some n') ++ [], next v t.1 t.2)
    rw [tells_nx h]
  | t :: t' :: l, v => by
    have ih := run_nx h (t' :: l) (next v t.1 t.2)
    show (tells v t.1 t.2 (some t'.1) ++ (runP (next v t.1 t.2) (t' :: l) n).1, (runP (next v t.1 t.2) (t' :: l) n).2) = _
    rw [ih]
    rfl
end
def atM (pv k : Nat) : Option Nat → Nat | none => pv | some j => j + k
theorem run_at (pt : Str) (pv k : Nat) (fd : Option Int) (sc : Bool) (bd : Int) (P : List Nat) (nh : Str) :
    runP (⟨pt, pv, fd, sc, bd⟩ : SX Nat) (mq (· + k) (itF P)) nh = (mp (atM pv k) (runP (⟨pt, none, fd, sc, bd⟩ : SX (Option Nat)) (itO P) nh).1, (runP (⟨pt, none, fd, sc, bd⟩ : SX (Option Nat)) (itO P) nh).2.map (atM pv k)) := by
  have := run_map (atM pv k) (itO P) (⟨pt, none, fd, sc, bd⟩ : SX (Option Nat)) nh
  rw [← this]
  have e : mq (atM pv k) (itO P) = mq (· + k) (itF P) := itO_map P k pv
  rw [e]
  rfl

/-- a beginning T of a text: its tokens, what is told of it, the state behind it -/
structure Pf (T : List Nat) (rd : List (Nat × Str)) (I : List (Str × Nat)) (v : SX Nat) (bd : Nat → Prop) (hd : Str → Prop) : Prop where
  cut : ∀ c R, bd c → its (T ++ c :: R) 0 = I ++ its (c :: R) T.length
  told : ∀ r nh, r.head?.map (·.1) = some nh → hd nh → scanAll (I ++ r) = rd ++ scan v r
theorem Pf.step {T : List Nat} {rd : List (Nat × Str)} {I : List (Str × Nat)} {v : SX Nat} {bd bd' : Nat → Prop} {hd hd' : Str → Prop} (h : Pf T rd I v bd hd) {c0 : Nat} {P' : List Nat} (hb : bd c0)
    (hap : ∀ c, bd' c → apart (c0 :: P') c = true) {x0 : Str} {l0 : List (Str × Nat)} (hi : ∃ j0, itF (c0 :: P') = (x0, j0) :: l0) (hx : hd x0) {rd' : List (Nat × Str)} {v' : SX Nat}
    (hr : ∀ nh, hd' nh → runP v (mq (· + T.length) (itF (c0 :: P'))) nh = (rd', v')) :
    Pf (T ++ c0 :: P') (rd ++ rd') (I ++ mq (· + T.length) (itF (c0 :: P'))) v' bd' hd' where
  cut := fun c R hc => by
    rw [List.append_assoc, List.cons_append, h.cut c0 (P' ++ c :: R) hb, ← List.cons_append, its_app (hap c hc), List.append_assoc, List.length_append]
  told := fun r nh hnh hh => by
    obtain ⟨j0, hi⟩ := hi
    rw [List.append_assoc, h.told (mq (· + T.length) (itF (c0 :: P')) ++ r) x0 (by rw [hi]; rfl) hx, scan_run _ r v nh hnh, hr nh hh, List.append_assoc]
end Mine

end
section
open PySem PySem.W PySem.Calls PyProof.Rows
set_option Elab.async false
set_option maxRecDepth 100000
namespace Mine
theorem L_app (a b : Str) : (a ++ b).cps.toList = a.cps.toList ++ b.cps.toList := by
  show (a.cps ++ b.cps).toList = _
  simp
def bdB (c : Nat) : Prop := c = 44 ∨ c = 41 ∨ c = 58 ∨ c = 61 ∨ c = 32
def hdB (nh : Str) : Prop := occs nxT nh = false
structure okB (g : Cfg) (v : SX Nat) : Prop where
  p : v.pt ∉ dlT
  f : v.fd = some g.D
  s : v.sc = false
  b : v.bd = g.B
def dueR (k : Nat) (b : Str) : List (Nat × Str) := if b ∈ hardT then [(k, e741 b)] else []
theorem comma_hd : occs nxT comma = false := by decide +kernel
theorem apart_bdB : ∀ (P : List Nat) (c : Nat), bdB c → apart P c = true
  | [], _, _ => rfl
  | [a], c, h => by
    have n1 : Unicode.isAlnum 44 = false := by decide +kernel
    have n2 : Unicode.isAlnum 41 = false := by decide +kernel
    have n3 : Unicode.isAlnum 58 = false := by decide +kernel
    have n4 : Unicode.isAlnum 61 = false := by decide +kernel
    have n5 : Unicode.isAlnum 32 = false := by decide +kernel
    rcases h with rfl | rfl | rfl | rfl | rfl <;> simp [apart, isTwo, n1, n2, n3, n4, n5]
  | _ :: b :: r, c, h => apart_bdB (b :: r) c h
theorem okEnd_at {g : Cfg} {q : SX (Option Nat)} {f : Option Nat → Nat} (h : okEnd g q = true) : okB g (q.map f) := by
  unfold okEnd at h
  simp only [Bool.and_eq_true, decide_eq_true_eq, beq_iff_eq] at h
  exact ⟨h.1.1.1, h.1.1.2, h.1.2, h.2⟩
/-- a start, two stages -/
theorem stage {g : Cfg} {T : List Nat} {rd : List (Nat × Str)} {I : List (Str × Nat)} {v : SX Nat} {bd : Nat → Prop} {hd : Str → Prop} (h : Pf T rd I v bd hd) {P : List Nat} {c0 : Nat} {P' : List Nat} (hP : P = c0 :: P') (hb : bd c0)
    {x0 : Str} {j0 : Nat} {l0 : List (Str × Nat)} (hi : itF P = (x0, j0) :: l0) (hx : hd x0) {pt : Str} {fd : Option Int} (e1 : v.pt = pt) (e2 : v.fd = fd) (e3 : v.sc = false) (e4 : v.bd = g.B)
    (ok : okEnd g (runP (⟨pt, none, fd, false, g.B⟩ : SX (Option Nat)) (itO P) comma).2 = true) :
    ∃ I' v', Pf (T ++ P) (rd ++ mp (atM v.pv T.length) (runP (⟨pt, none, fd, false, g.B⟩ : SX (Option Nat)) (itO P) comma).1) I' v' bdB hdB ∧ okB g v' ∧ v'.pt = (runP (⟨pt, none, fd, false, g.B⟩ : SX (Option Nat)) (itO P) comma).2.pt := by
  obtain ⟨vp, vv, vf, vs, vb⟩ := v
  dsimp only at e1 e2 e3 e4
  subst e1 e2 e3 e4
  subst hP
  refine ⟨_, _, h.step hb (fun c hc => apart_bdB _ _ hc) ⟨j0, hi⟩ hx (v' := (runP (⟨vp, none, vf, false, g.B⟩ : SX (Option Nat)) (itO (c0 :: P')) comma).2.map (atM vv T.length)) (fun nh hh => ?_), okEnd_at ok, rfl⟩
  rw [run_at, run_nx (n := nh) (n' := comma) (hh.trans comma_hd.symm)]
end Mine

end
section
open PySem PySem.W PySem.Calls PyProof.Rows
set_option Elab.async false
set_option maxRecDepth 100000
namespace Mine
theorem occ_c : occs opT (Str.ofString ":") = true ∧ occs clT (Str.ofString ":") = true ∧ occs nxT (Str.ofString ":") = false := by decide +kernel
theorem occ_e : occs opT (Str.ofString "=") = true ∧ occs clT (Str.ofString "=") = true ∧ occs nxT (Str.ofString "=") = false := by decide +kernel
theorem occ_k : occs opT (Str.ofString ",") = true ∧ occs clT (Str.ofString ",") = true ∧ occs nxT (Str.ofString ",") = false := by decide +kernel
theorem occ_p : occs opT (Str.ofString ")") = true ∧ occs clT (Str.ofString ")") = false ∧ occs nxT (Str.ofString ")") = false := by decide +kernel
section
variable {α : Type} {v : SX α} {sv : α} {nx : Option Str}
theorem tk_colon (hp : v.pt ∉ dlT) : tells v (Str.ofString ":") sv nx = [] ∧ next v (Str.ofString ":") sv = ⟨Str.ofString ":", sv, v.fd, if v.fd = some v.bd then true else v.sc, v.bd⟩ := by
  refine ⟨tells_soft (by decide +kernel) (if_neg fun q => ?_), ?_⟩
  · rcases q.1 with q | q
    · exact absurd q (by decide +kernel)
    · exact absurd q.1 (by decide +kernel)
  · have e1 : fd2 v = v.fd := if_neg hp
    have e2 : sc2 v (Str.ofString ":") = if v.fd = some v.bd then true else v.sc := by
      unfold sc2; rw [if_neg hp]
      by_cases c : v.fd = some v.bd
      · rw [if_pos ⟨c, rfl⟩, if_pos c]
      · rw [if_neg (fun q => c q.1), if_neg c]
    have e3 : bd3 v (Str.ofString ":") = v.bd := by unfold bd3; rw [if_pos occ_c.1, if_pos occ_c.2.1]
    unfold next
    rw [e1, e2, e3]
theorem tk_comma (hp : v.pt ∉ dlT) : tells v (Str.ofString ",") sv nx = [] ∧ next v (Str.ofString ",") sv = ⟨Str.ofString ",", sv, v.fd, v.sc, v.bd⟩ := by
  refine ⟨tells_soft (by decide +kernel) (if_neg fun q => ?_), ?_⟩
  · rcases q.1 with q | q
    · exact absurd q (by decide +kernel)
    · exact absurd q.1 (by decide +kernel)
  · have e1 : fd2 v = v.fd := if_neg hp
    have e2 : sc2 v (Str.ofString ",") = v.sc := by
      unfold sc2; rw [if_neg hp, if_neg fun q => absurd q.2 (by decide +kernel)]
    have e3 : bd3 v (Str.ofString ",") = v.bd := by unfold bd3; rw [if_pos occ_k.1, if_pos occ_k.2.1]
    unfold next
    rw [e1, e2, e3]
theorem tk_eq (hp : v.pt ∉ dlT) (h0 : v.bd = 0 → v.pt ∉ hardT) : tells v (Str.ofString "=") sv nx = [] ∧ next v (Str.ofString "=") sv = ⟨Str.ofString "=", sv, v.fd, v.sc, v.bd⟩ := by
  have e3 : bd3 v (Str.ofString "=") = v.bd := by unfold bd3; rw [if_pos occ_e.1, if_pos occ_e.2.1]
  refine ⟨tells_soft (by decide +kernel) (if_neg fun q => ?_), ?_⟩
  · rcases q.1 with q1 | q1
    · exact absurd q1 (by decide +kernel)
    · rw [e3] at q1; exact h0 q1.2 q.2
  · have e1 : fd2 v = v.fd := if_neg hp
    have e2 : sc2 v (Str.ofString "=") = v.sc := by
      unfold sc2; rw [if_neg hp, if_neg fun q => absurd q.2 (by decide +kernel)]
    unfold next
    rw [e1, e2, e3]
theorem tk_close (hp : v.pt ∉ dlT) : tells v (Str.ofString ")") sv nx = [] ∧ next v (Str.ofString ")") sv = ⟨Str.ofString ")", sv, v.fd, v.sc, v.bd - 1⟩ := by
  refine ⟨tells_soft (by decide +kernel) (if_neg fun q => ?_), ?_⟩
  · rcases q.1 with q | q
    · exact absurd q (by decide +kernel)
    · exact absurd q.1 (by decide +kernel)
  · have e1 : fd2 v = v.fd := if_neg hp
    have e2 : sc2 v (Str.ofString ")") = v.sc := by
      unfold sc2; rw [if_neg hp, if_neg fun q => absurd q.2 (by decide +kernel)]
    have e3 : bd3 v (Str.ofString ")") = v.bd - 1 := by unfold bd3; rw [if_pos occ_p.1, if_neg (by rw [occ_p.2.1]; exact Bool.false_ne_true)]
    unfold next
    rw [e1, e2, e3]
end
/-- one sign alone -/
theorem Pf.one {T : List Nat} {rd : List (Nat × Str)} {I : List (Str × Nat)} {v v' : SX Nat} {bd : Nat → Prop} {hd : Str → Prop} (h : Pf T rd I v bd hd) {P : List Nat} {c0 : Nat} {P' : List Nat} (hP : P = c0 :: P') (hb : bd c0)
    {x0 : Str} {j0 : Nat} (hi : itF P = [(x0, j0)]) (hx : hd x0) (hap : ∀ c, apart P c = true) (hr : ∀ sv nx, tells v x0 sv nx = [] ∧ next v x0 sv = { v' with pv := sv }) : ∃ I' pv, Pf (T ++ P) rd I' { v' with pv := pv } (fun _ => True) (fun _ => True) := by
  subst hP
  have := h.step hb (bd' := fun _ => True) (hd' := fun _ => True) (fun c _ => hap c) ⟨j0, hi⟩ hx (rd' := []) (v' := { v' with pv := j0 + T.length }) (fun nh _ => by
    rw [hi]
    have q := hr (j0 + T.length) (some nh)
    show (tells v x0 (j0 + T.length) (some nh) ++ [], next v x0 (j0 + T.length)) = _
    rw [q.1, q.2]
    rfl)
  rw [List.append_nil] at this
  exact ⟨_, _, this⟩
end Mine

end
section
open PySem PySem.W PySem.Calls PyProof.Rows
set_option Elab.async false
set_option maxRecDepth 100000
namespace Mine
def anyC (_ : Nat) : Prop := True
def anyH (_ : Str) : Prop := True
/-- ready for a parameter -/
def StA (g : Cfg) (T : List Nat) (rd : List (Nat × Str)) : Prop := ∃ I v, Pf T rd I v anyC anyH ∧ (v.pt, v.fd) ∈ g.st ∧ v.sc = false ∧ v.bd = g.B
/-- behind a parameter -/
def StB (g : Cfg) (T : List Nat) (rd : List (Nat × Str)) : Prop := ∃ I v, Pf T rd I v bdB hdB ∧ okB g v
structure Good (g : Cfg) (b1 b2 : Bool) : Prop where
  a1 : all1 g = true
  ty : b1 = true → g = cD
  df : (dfltR.all fun r => chkR g (Str.ofString "=") r) = true
  hz : g.B = 0 → b2 = true
  cm : (Str.ofString ",", some g.D) ∈ g.st
  stl : (g.st.all fun s => [42, 47].all fun c => let q := runP (⟨s.1, none, s.2, false, g.B⟩ : SX (Option Nat)) (itO [c]) comma; q.1.isEmpty && okEnd g q.2) = true
theorem goodD : Good cD true false := ⟨all1D, fun _ => rfl, dfltsD, (fun h => absurd h (by decide)), by decide +kernel, by decide +kernel⟩
theorem goodL : Good cL false true := ⟨all1L, (fun h => absurd h (by decide)), dfltsL, fun _ => rfl, by decide +kernel, by decide +kernel⟩
theorem goodC : Good cC false false := ⟨all1C, (fun h => absurd h (by decide)), dfltsC, (fun h => absurd h (by decide)), by decide +kernel, by decide +kernel⟩

theorem ne_cons {α : Type} {l : List α} (h : l.isEmpty = false) : ∃ a r, l = a :: r := by
  cases l with
  | nil => cases h
  | cons a r => exact ⟨a, r, rfl⟩
theorem ne1 : (starsU.all fun a => nameU.all fun b => !(a.cps.toList ++ b.cps.toList).isEmpty && !(itF (a.cps.toList ++ b.cps.toList)).isEmpty) = true := by decide +kernel
theorem neT : (typeR.all fun r => !r.cps.toList.isEmpty && !(itF r.cps.toList).isEmpty) = true := by decide +kernel
theorem neD : (dfltR.all fun r => !r.cps.toList.isEmpty && !(itF r.cps.toList).isEmpty) = true := by decide +kernel
theorem mp_due (pv k o : Nat) (b : Str) : mp (atM pv k) (dueO o b) = dueR (o + k) b := by
  unfold dueO dueR
  split <;> rfl
/-- stars and name -/
theorem st_name {g : Cfg} {b1 b2 : Bool} (G : Good g b1 b2) {T : List Nat} {rd : List (Nat × Str)} (h : StA g T rd) {a b : Str} (ha : a ∈ starsU) (hb : b ∈ nameU) :
    ∃ I v, Pf (T ++ (a.cps.toList ++ b.cps.toList)) (rd ++ dueR (a.cps.toList.length + T.length) b) I v bdB hdB ∧ okB g v ∧ v.pt = b := by
  obtain ⟨I, v, F, hs, e3, e4⟩ := h
  have n := List.all_eq_true.mp (List.all_eq_true.mp ne1 a ha) b hb
  simp only [Bool.and_eq_true, Bool.not_eq_true'] at n
  obtain ⟨c0, P', hP⟩ := ne_cons n.1
  obtain ⟨⟨x0, j0⟩, l0, hi⟩ := ne_cons n.2
  have ck := List.all_eq_true.mp (List.all_eq_true.mp (List.all_eq_true.mp G.a1 _ hs) a ha) b hb
  unfold chk1 at ck
  simp only [Bool.and_eq_true, decide_eq_true_eq] at ck
  obtain ⟨I', v', F', ok, hp⟩ := stage F hP trivial hi trivial rfl rfl e3 e4 ck.1.2
  rw [ck.1.1, mp_due] at F'
  exact ⟨I', v', F', ok, hp.trans ck.2⟩
/-- a piece that tells nothing, behind a known sign -/
theorem st_rest {g : Cfg} {p : Str} {T : List Nat} {rd : List (Nat × Str)} {I : List (Str × Nat)} {v : SX Nat} (F : Pf T rd I v anyC anyH) (e1 : v.pt = p) (e2 : v.fd = some g.D) (e3 : v.sc = false) (e4 : v.bd = g.B)
    {r : Str} (n : (!r.cps.toList.isEmpty && !(itF r.cps.toList).isEmpty) = true) (ck : chkR g p r = true) : StB g (T ++ r.cps.toList) rd := by
  simp only [Bool.and_eq_true, Bool.not_eq_true'] at n
  obtain ⟨c0, P', hP⟩ := ne_cons n.1
  obtain ⟨⟨x0, j0⟩, l0, hi⟩ := ne_cons n.2
  unfold chkR at ck
  simp only [Bool.and_eq_true, List.isEmpty_iff] at ck
  obtain ⟨I', v', F', ok, hp⟩ := stage F hP trivial hi trivial e1 e2 e3 e4 ck.2
  rw [ck.1] at F'
  have : rd ++ mp (atM v.pv T.length) [] = rd := List.append_nil rd
  rw [this] at F'
  exact ⟨I', v', F', ok⟩
theorem it_c : itF [58] = [(Str.ofString ":", 0)] := by decide +kernel
theorem it_e : itF [61] = [(Str.ofString "=", 0)] := by decide +kernel
theorem it_se : itF [32, 61] = [(Str.ofString "=", 1)] := by decide +kernel
theorem it_k : itF [44, 32] = [(Str.ofString ",", 0)] := by decide +kernel
theorem it_p : itF [41] = [(Str.ofString ")", 0)] := by decide +kernel
theorem ap_c (c : Nat) : apart [58] c = true := by
  have n : Unicode.isAlnum 58 = false := by decide +kernel
  simp [apart, isTwo, n]
theorem ap_e (c : Nat) : apart [61] c = true := by
  have n : Unicode.isAlnum 61 = false := by decide +kernel
  simp [apart, isTwo, n]
theorem ap_se (c : Nat) : apart [32, 61] c = true := ap_e c
theorem ap_p (c : Nat) : apart [41] c = true := by
  have n : Unicode.isAlnum 41 = false := by decide +kernel
  simp [apart, isTwo, n]
theorem ap_k (c : Nat) : apart [44, 32] c = true := by
  have n : Unicode.isAlnum 32 = false := by decide +kernel
  simp [apart, isTwo, n]
theorem st_type {T : List Nat} {rd : List (Nat × Str)} (h : StB cD T rd) {r : Str} (hr : r ∈ typeR) : StB cD (T ++ ([58] ++ r.cps.toList)) rd := by
  obtain ⟨I, v, F, ok⟩ := h
  have nD : ¬ (v.fd = some v.bd) := by rw [ok.f, ok.b]; decide
  obtain ⟨I', pv, F'⟩ := F.one (v' := ⟨Str.ofString ":", 0, v.fd, v.sc, v.bd⟩) rfl (Or.inr (Or.inr (Or.inl rfl))) it_c occ_c.2.2 ap_c (fun sv nx => by
    have q := tk_colon (sv := sv) (nx := nx) ok.p
    rw [if_neg nD] at q
    exact q)
  have := st_rest (g := cD) F' (p := Str.ofString ":") rfl ok.f ok.s ok.b (List.all_eq_true.mp neT r hr) (List.all_eq_true.mp typesD r hr)
  rw [List.append_assoc] at this
  exact this
theorem st_dflt {g : Cfg} {b1 b2 : Bool} (G : Good g b1 b2) {T : List Nat} {rd : List (Nat × Str)} {I : List (Str × Nat)} {v : SX Nat} (F : Pf T rd I v bdB hdB) (ok : okB g v) (hz : g.B = 0 → v.pt ∉ hardT) {r : Str} (hr : r ∈ dfltR) {e : List Nat} (he : e = [61] ∨ e = [32, 61]) :
    StB g (T ++ (e ++ r.cps.toList)) rd := by
  have hz' : v.bd = 0 → v.pt ∉ hardT := fun q => hz (ok.b ▸ q)
  have key : ∃ I' pv, Pf (T ++ e) rd I' ⟨Str.ofString "=", pv, v.fd, v.sc, v.bd⟩ (fun _ => True) (fun _ => True) := by
    rcases he with rfl | rfl
    · exact F.one (v' := ⟨Str.ofString "=", 0, v.fd, v.sc, v.bd⟩) rfl (Or.inr (Or.inr (Or.inr (Or.inl rfl)))) it_e occ_e.2.2 ap_e (fun sv nx => tk_eq ok.p hz')
    · exact F.one (v' := ⟨Str.ofString "=", 0, v.fd, v.sc, v.bd⟩) rfl (Or.inr (Or.inr (Or.inr (Or.inr rfl)))) it_se occ_e.2.2 ap_se (fun sv nx => tk_eq ok.p hz')
  obtain ⟨I', pv, F'⟩ := key
  have := st_rest (g := g) F' (p := Str.ofString "=") rfl ok.f ok.s ok.b (List.all_eq_true.mp neD r hr) (List.all_eq_true.mp G.df r hr)
  rw [List.append_assoc] at this
  exact this
/-- the comma between two -/
theorem st_comma {g : Cfg} {b1 b2 : Bool} (G : Good g b1 b2) {T : List Nat} {rd : List (Nat × Str)} (h : StB g T rd) : StA g (T ++ [44, 32]) rd := by
  obtain ⟨I, v, F, ok⟩ := h
  obtain ⟨I', pv, F'⟩ := F.one (v' := ⟨Str.ofString ",", 0, v.fd, v.sc, v.bd⟩) rfl (Or.inl rfl) it_k occ_k.2.2 ap_k (fun sv nx => tk_comma ok.p)
  refine ⟨I', _, F', ?_, ok.s, ok.b⟩
  show (Str.ofString ",", v.fd) ∈ g.st
  rw [ok.f]
  exact G.cm
/-- a lone star, a lone slash -/
theorem it_lone : itF [42] = [(Str.ofString "*", 0)] ∧ itF [47] = [(Str.ofString "/", 0)] := by decide +kernel
theorem st_lone {g : Cfg} {b1 b2 : Bool} (G : Good g b1 b2) {T : List Nat} {rd : List (Nat × Str)} (h : StA g T rd) {c : Nat} (hc : c = 42 ∨ c = 47) : StB g (T ++ [c]) rd := by
  obtain ⟨I, v, F, hs, e3, e4⟩ := h
  have ck := List.all_eq_true.mp (List.all_eq_true.mp G.stl _ hs) c (by rcases hc with rfl | rfl <;> decide)
  simp only [Bool.and_eq_true, List.isEmpty_iff] at ck
  have hi : ∃ x0, itF [c] = [(x0, 0)] := by
    rcases hc with rfl | rfl
    · exact ⟨_, it_lone.1⟩
    · exact ⟨_, it_lone.2⟩
  obtain ⟨x0, hi⟩ := hi
  obtain ⟨I', v', F', ok, hp⟩ := stage F (P := [c]) rfl trivial hi trivial rfl rfl e3 e4 ck.2
  rw [ck.1] at F'
  have : rd ++ mp (atM v.pv T.length) [] = rd := List.append_nil rd
  rw [this] at F'
  exact ⟨I', v', F', ok⟩
end Mine

end
section
open PySem PySem.W PySem.Calls PyProof.Rows
set_option Elab.async false
set_option maxRecDepth 100000
namespace Mine
def up (rd : List (Nat × Str)) : List Dat := rd.map fun p => place p.1 p.2
theorem up_app (a b : List (Nat × Str)) : up (a ++ b) = up a ++ up b := List.map_append
theorem strLen (t : Str) : t.length = t.cps.toList.length := by simp [Str.length]
theorem star_mem : ∀ a ∈ starsT, a ∈ starsU := by decide +kernel
theorem name_mem : ∀ a ∈ nameT, a ∈ nameU := by decide +kernel
theorem type_mem : ∀ c ∈ typeT, c = Str.ofString "" ∨ ∃ r ∈ typeR, c = Str.ofString ":" ++ r := by decide +kernel
theorem dflt_mem : ∀ d ∈ dfltT, d = Str.ofString "" ∨ ∃ r ∈ dfltR, d = Str.ofString "=" ++ r ∨ d = Str.ofString " =" ++ r := by decide +kernel
theorem L_nil : (Str.ofString "").cps.toList = [] := by decide +kernel
theorem L_c : (Str.ofString ":").cps.toList = [58] := by decide +kernel
theorem L_e : (Str.ofString "=").cps.toList = [61] := by decide +kernel
theorem L_se : (Str.ofString " =").cps.toList = [32, 61] := by decide +kernel
theorem L_k : (Str.ofString ", ").cps.toList = [44, 32] := by decide +kernel
theorem L_star : (Str.ofString "*").cps.toList = [42] := by decide +kernel
theorem L_slash : (Str.ofString "/").cps.toList = [47] := by decide +kernel
theorem due_up {k : Nat} {b : Str} : dueN (k : Int) b = up (dueR k b) := by
  unfold dueN dueR
  split <;> rfl
theorem st_sep {g : Cfg} {b1 b2 : Bool} (G : Good g b1 b2) {i : Nat} {t : Str} {rd : List (Nat × Str)} (h0 : i = 0 → StA g t.cps.toList rd) (h1 : i ≠ 0 → StB g t.cps.toList rd) : StA g (sep i t).cps.toList rd := by
  unfold sep
  split
  · rename_i h; exact h0 h
  · rename_i h
    rw [L_app, L_k]
    exact st_comma G (h1 h)
theorem prun {g : Cfg} {b1 b2 : Bool} (G : Good g b1 b2) {t0 : Str} {rd0 : List (Nat × Str)} (hA : StA g t0.cps.toList rd0) {i : Nat} {t : Str} {ds : List Dat} (h : PRun b1 b2 t0 i t ds) :
    ∃ rd, ds = up rd ∧ (i = 0 → StA g t.cps.toList (rd0 ++ rd)) ∧ (i ≠ 0 → StB g t.cps.toList (rd0 ++ rd)) := by
  induction h with
  | nil => exact ⟨[], rfl, fun _ => by rw [List.append_nil]; exact hA, fun h => absurd rfl h⟩
  | @star i t ds h hi ih =>
    obtain ⟨rd, e, _, ih1⟩ := ih
    refine ⟨rd, e, fun h => by omega, fun _ => ?_⟩
    rw [L_app, L_star]
    exact st_lone G (st_sep G (fun h => absurd h hi) ih1) (Or.inl rfl)
  | @slash i t ds h hi ih =>
    obtain ⟨rd, e, _, ih1⟩ := ih
    refine ⟨rd, e, fun h => by omega, fun _ => ?_⟩
    rw [L_app, L_slash]
    exact st_lone G (st_sep G (fun h => absurd h hi) ih1) (Or.inr rfl)
  | @par i t ds a b c d h ha hb hc hd ih =>
    obtain ⟨rd, e, ih0, ih1⟩ := ih
    have hS := st_sep G ih0 ih1
    refine ⟨rd ++ dueR (sep i t ++ a).length b, ?_, fun h => by omega, fun _ => ?_⟩
    · rw [up_app, ← e, due_up]
    obtain ⟨I, v, F, ok, hp⟩ := st_name G hS (star_mem a ha) (name_mem b hb)
    have el : a.cps.toList.length + (sep i t).cps.toList.length = (sep i t ++ a).length := by
      rw [strLen, L_app, List.length_append, Nat.add_comm]
    rw [el] at F
    have et : (((((sep i t ++ a) ++ b) ++ c) ++ d) : Str).cps.toList = ((sep i t).cps.toList ++ (a.cps.toList ++ b.cps.toList)) ++ c.cps.toList ++ d.cps.toList := by
      simp only [L_app, List.append_assoc]
    rw [et, ← List.append_assoc rd0]
    generalize (sep i t).cps.toList ++ (a.cps.toList ++ b.cps.toList) = T at F
    generalize (rd0 ++ rd) ++ dueR (sep i t ++ a).length b = D at F
    have key : ∀ {T : List Nat} {I v}, Pf T D I v bdB hdB → okB g v → (d ≠ Str.ofString "" → g.B = 0 → v.pt ∉ hardT) → StB g (T ++ d.cps.toList) D := by
      intro T I v F ok hz
      rcases dflt_mem d hd.1 with e | ⟨r, hr, e⟩
      · rw [e, L_nil, List.append_nil]
        exact ⟨_, _, F, ok⟩
      · have hne : d ≠ Str.ofString "" := by
          intro e'
          rw [e'] at e
          rcases e with e | e
          · have := congrArg (fun t : Str => t.cps.toList) e
            simp only [L_app, L_nil, L_e] at this
            cases this
          · have := congrArg (fun t : Str => t.cps.toList) e
            simp only [L_app, L_nil, L_se] at this
            cases this
        rcases e with e | e
        · rw [e, L_app, L_e]
          exact st_dflt G F ok (hz hne) hr (Or.inl rfl)
        · rw [e, L_app, L_se]
          exact st_dflt G F ok (hz hne) hr (Or.inr rfl)
    rcases type_mem c hc.1 with ec | ⟨r, hr, ec⟩
    · rw [ec, L_nil, List.append_nil]
      refine key F ok (fun hne hB => ?_)
      rw [hp]
      intro hh
      exact hne (hd.2 fun q => q.2 ⟨G.hz hB, hh⟩)
    · have hb1 : b1 = true := by
        cases b1 with
        | true => rfl
        | false =>
          have := hc.2 rfl
          rw [this] at ec
          have := congrArg (fun t : Str => t.cps.toList) ec
          simp only [L_app, L_nil, L_c] at this
          cases this
      have hg := G.ty hb1
      subst hg
      rw [ec, L_app, L_c]
      obtain ⟨I', v', F', ok'⟩ := st_type ⟨I, v, F, ok⟩ hr
      exact key F' ok' (fun _ hB => absurd hB (by decide))

/-- the whole text: a beginning, a last piece, the line's end -/
def nlT : Str := Str.ofString "\n"
theorem nl_soft : nlT ∉ hardT ∧ nlT ≠ Str.ofString ":=" ∧ nlT ≠ Str.ofString "=" := by decide +kernel
theorem tells_nl {α : Type} {v : SX α} {sv : α} {nx : Option Str} : tells v nlT sv nx = [] :=
  tells_soft nl_soft.1 (if_neg fun q => q.1.elim nl_soft.2.1 fun q => nl_soft.2.2 q.1)
theorem ap_ten : ∀ P : List Nat, apart P 10 = true
  | [] => rfl
  | [a] => by simp [apart, isTwo, alnum10]
  | _ :: b :: r => ap_ten (b :: r)
theorem its_end (P : List Nat) (k : Nat) : its (P ++ [10]) k = mq (· + k) (itF P) := by
  have := its_app (R := []) (k := k) (ap_ten P)
  rw [this]
  unfold its
  rw [tks_last]
  exact List.append_nil _
theorem fin {T : List Nat} {rd : List (Nat × Str)} {I : List (Str × Nat)} {v : SX Nat} {bd : Nat → Prop} {hd : Str → Prop} (F : Pf T rd I v bd hd) {P : List Nat} {c0 : Nat} {P' : List Nat} (hP : P = c0 :: P') (hb : bd c0)
    {x0 : Str} {j0 : Nat} {l0 : List (Str × Nat)} (hi : itF P = (x0, j0) :: l0) (hx : hd x0) {tx : Str} (htx : tx.cps.toList = T ++ P ++ [10]) :
    toldOf tx = up (rd ++ mp (atM v.pv T.length) (runP (⟨v.pt, none, v.fd, v.sc, v.bd⟩ : SX (Option Nat)) (itO P) nlT).1) := by
  have e1 : ((toksOf tx).map fun t => (t.text, t.b)) = its tx.cps.toList 0 ++ [(nlT, tx.length - 1)] := by
    unfold toksOf its
    rw [List.map_append]
    rfl
  have e2 : its tx.cps.toList 0 = I ++ mq (· + T.length) (itF P) := by
    rw [htx, hP, List.append_assoc, List.cons_append, F.cut c0 (P' ++ [10]) hb, ← List.cons_append, its_end]
  unfold toldOf
  rw [e1, e2, List.append_assoc]
  rw [F.told (mq (· + T.length) (itF P) ++ [(nlT, tx.length - 1)]) x0 (by rw [hi]; rfl) hx]
  rw [scan_run _ _ v nlT rfl]
  have e3 : ∀ w : SX Nat, scan w [(nlT, tx.length - 1)] = [] := fun w => by
    show tells w nlT _ _ ++ [] = []
    rw [tells_nl]; rfl
  rw [e3, List.append_nil]
  obtain ⟨vp, vv, vf, vs, vb⟩ := v
  rw [run_at]
  rfl
/-- a closed beginning -/
def apH (c : Nat) : Bool := c == 32 || c == 40
theorem ap_last : ∀ (P : List Nat) (c : Nat), (∃ x, P.getLast? = some x ∧ apH x = true) → apart P c = true
  | [], _, _ => rfl
  | [a], c, ⟨x, e, h⟩ => by
    have n1 : Unicode.isAlnum 32 = false := by decide +kernel
    have n2 : Unicode.isAlnum 40 = false := by decide +kernel
    simp only [List.getLast?_singleton, Option.some.injEq] at e
    subst e
    simp only [apH, Bool.or_eq_true, beq_iff_eq] at h
    rcases h with rfl | rfl <;> simp [apart, isTwo, n1, n2]
  | _ :: b :: r, c, ⟨x, e, h⟩ => ap_last (b :: r) c ⟨x, by rw [← e, List.getLast?_cons_cons], h⟩
theorem run_st {α : Type} : ∀ (l : List (Str × α)) (v : SX α) (n n' : Str), (runP v l n).2 = (runP v l n').2
  | [], _, _, _ => rfl
  | _ :: r, _, n, n' => run_st r _ n n'
def chkH (g : Cfg) (H : List Nat) (rd : List (Nat × Str)) : Bool :=
  match itF H with
  | [] => false
  | t :: l => let q := runP (start t) l comma
    decide (q.1 = rd) && decide ((runP (start t) l (Str.ofString "l")).1 = rd) && g.st.contains (q.2.pt, q.2.fd) && (q.2.sc == false) && decide (q.2.bd = g.B) && (match H.getLast? with | none => false | some x => apH x)
theorem l_hd : occs nxT (Str.ofString "l") = true := by decide +kernel
theorem mq_zero (l : List (Str × Nat)) : mq (· + 0) l = l := by
  unfold mq
  simp
theorem head {g : Cfg} {H : List Nat} {rd : List (Nat × Str)} (h : chkH g H rd = true) : StA g H rd := by
  unfold chkH at h
  cases hi : itF H with
  | nil => rw [hi] at h; cases h
  | cons t l =>
    rw [hi] at h
    simp only [Bool.and_eq_true, decide_eq_true_eq, beq_iff_eq, List.contains_iff_mem] at h
    obtain ⟨⟨⟨⟨⟨h1, h2⟩, h3⟩, h4⟩, h5⟩, h6⟩ := h
    refine ⟨t :: l, (runP (start t) l comma).2, ⟨?_, ?_⟩, h3, h4, h5⟩
    · intro c R _
      have ha : apart H c = true := by
        refine ap_last H c ?_
        cases e : H.getLast? with
        | none => rw [e] at h6; cases h6
        | some x => rw [e] at h6; exact ⟨x, rfl, h6⟩
      rw [its_app ha, mq_zero, hi, Nat.zero_add]
    · intro r nh hr _
      show scan (start t) (l ++ r) = _
      rw [scan_run l r _ nh hr, run_st l _ nh comma]
      congr 1
      cases hb : occs nxT nh with
      | false => rw [run_nx (hb.trans comma_hd.symm), h1]
      | true => rw [run_nx (hb.trans l_hd.symm), h2]
end Mine

end
section
open PySem PySem.W PySem.Calls PyProof.Rows
set_option Elab.async false
set_option maxRecDepth 100000
namespace Mine
def dueFR (k : Nat) (x : Str) : List (Nat × Str) := if x ∈ hardT then [(k, e743 x)] else []
theorem dueF_up {k : Nat} {x : Str} : dueF (k : Int) x = up (dueFR k x) := by
  unfold dueF dueFR
  split <;> rfl
theorem heads : (preT.all fun p => dnameT.all fun n => chkH cD (defHead p n).cps.toList (dueFR p.length n)) = true := by decide +kernel
theorem headL : chkH cL (Str.ofString "h = lambda ").cps.toList [] = true := by decide +kernel
theorem headC : chkH cC (Str.ofString "g(x, lambda ").cps.toList [] = true := by decide +kernel
def dueBO (k : Nat) (p : Int) (x : Str) : List (Option Nat × Str) := if 0 ≤ p then [(some (k + p.toNat), e741 x)] else []
theorem dueB_up {k o : Nat} {p : Int} {x : Str} {pv : Nat} : up (mp (atM pv k) (dueBO o p x)) = dueB ((o + k : Nat) : Int) p x := by
  unfold dueBO dueB
  split
  · rename_i h
    show [place ((o + p.toNat + k : Nat) : Int) (e741 x)] = _
    congr 2
    omega
  · rfl
def nonE (P : List Nat) : Bool := !P.isEmpty && !(itF P).isEmpty
def chkD (ret : Str) (b : Str × Int × Str) : Bool :=
  let P := ret.cps.toList ++ ([58] ++ b.1.cps.toList)
  nonE P && decide ((runP (⟨Str.ofString ")", none, some 0, false, 0⟩ : SX (Option Nat)) (itO P) nlT).1 = dueBO (ret.cps.toList.length + 1) b.2.1 b.2.2)
theorem tailsD : (retT.all fun r => bodyT.all fun b => chkD r b) = true := by decide +kernel
def chkE (D : Int) (P : List Nat) : Bool := nonE P && (runP (⟨Str.ofString ":", none, some D, true, D⟩ : SX (Option Nat)) (itO P) nlT).1.isEmpty
theorem tailsL : (lamT.all fun x => chkE 0 ([32] ++ x.cps.toList)) = true := by decide +kernel
theorem tailsC : (lamT.all fun x => restT.all fun y => chkE 1 ([32] ++ (x.cps.toList ++ y.cps.toList))) = true := by decide +kernel
theorem L_nl : (Str.ofString "\n").cps.toList = [10] := by decide +kernel
theorem L_p : (Str.ofString ")").cps.toList = [41] := by decide +kernel
theorem L_cs : (Str.ofString ": ").cps.toList = [58] ++ [32] := by decide +kernel
/-- a def's end -/
theorem end_def {t : Str} {rd : List (Nat × Str)} (h : StB cD t.cps.toList rd) {ret : Str} (hr : ret ∈ retT) {b : Str × Int × Str} (hb : b ∈ bodyT) :
    toldOf ((defTail t ret ++ b.1) ++ Str.ofString "\n") = up rd ++ dueB (defTail t ret).length b.2.1 b.2.2 := by
  obtain ⟨I, v, F, ok⟩ := h
  obtain ⟨I', pv, F'⟩ := F.one (v' := ⟨Str.ofString ")", 0, v.fd, v.sc, v.bd - 1⟩) rfl (Or.inr (Or.inl rfl)) it_p occ_p.2.2 ap_p (fun sv nx => tk_close ok.p)
  have ck := List.all_eq_true.mp (List.all_eq_true.mp tailsD ret hr) b hb
  unfold chkD nonE at ck
  simp only [Bool.and_eq_true, Bool.not_eq_true', decide_eq_true_eq] at ck
  obtain ⟨c0, P', hP⟩ := ne_cons ck.1.1
  obtain ⟨⟨x0, j0⟩, l0, hi⟩ := ne_cons ck.1.2
  have e := fin F' hP trivial hi trivial (tx := (defTail t ret ++ b.1) ++ Str.ofString "\n") (by
    unfold defTail
    simp only [L_app, L_nl, L_p, L_c, List.append_assoc])
  rw [e, up_app]
  congr 1
  have e1 : v.fd = some 0 := ok.f
  have e2 : v.sc = false := ok.s
  have e3 : v.bd - 1 = 0 := by rw [ok.b]; decide
  dsimp only
  rw [e1, e2, e3, ck.2, dueB_up]
  congr 2
  unfold defTail
  rw [strLen]
  simp only [L_app, L_p, L_c, List.length_append, List.length_cons, List.length_nil]
  omega
/-- a lambda's end -/
theorem end_lam {g : Cfg} (hg : g.D = g.B) {t x : Str} {rd : List (Nat × Str)} (h : StB g t.cps.toList rd) (ck : chkE g.D ([32] ++ x.cps.toList) = true) :
    toldOf (((t ++ Str.ofString ": ") ++ x) ++ Str.ofString "\n") = up rd := by
  obtain ⟨I, v, F, ok⟩ := h
  have hD : v.fd = some v.bd := by rw [ok.f, ok.b, hg]
  obtain ⟨I', pv, F'⟩ := F.one (v' := ⟨Str.ofString ":", 0, v.fd, true, v.bd⟩) rfl (Or.inr (Or.inr (Or.inl rfl))) it_c occ_c.2.2 ap_c (fun sv nx => by
    have q := tk_colon (sv := sv) (nx := nx) ok.p
    rw [if_pos hD] at q
    exact q)
  unfold chkE nonE at ck
  simp only [Bool.and_eq_true, Bool.not_eq_true', List.isEmpty_iff] at ck
  obtain ⟨c0, P', hP⟩ := ne_cons ck.1.1
  obtain ⟨⟨x0, j0⟩, l0, hi⟩ := ne_cons ck.1.2
  have e := fin F' hP trivial hi trivial (tx := ((t ++ Str.ofString ": ") ++ x) ++ Str.ofString "\n") (by
    simp only [L_app, L_nl, L_cs, List.append_assoc])
  rw [e]
  have e1 : v.fd = some g.D := ok.f
  have e3 : v.bd = g.D := by rw [ok.b, hg]
  dsimp only
  rw [e1, e3, ck.2]
  show up (rd ++ []) = up rd
  rw [List.append_nil]
/-- closed texts -/
def chkZ (P : List Nat) : Bool := (scanAll (itF P ++ [(nlT, P.length)])).isEmpty
theorem closed {x : Str} (h : chkZ x.cps.toList = true) : toldOf (x ++ Str.ofString "\n") = [] := by
  unfold chkZ at h
  rw [List.isEmpty_iff] at h
  have e1 : ((toksOf (x ++ Str.ofString "\n")).map fun t => (t.text, t.b)) = its (x ++ Str.ofString "\n").cps.toList 0 ++ [(nlT, (x ++ Str.ofString "\n").length - 1)] := by
    unfold toksOf its
    rw [List.map_append]
    rfl
  unfold toldOf
  rw [e1, L_app, L_nl, its_end, mq_zero]
  have e2 : (x ++ Str.ofString "\n").length - 1 = x.cps.toList.length := by
    rw [strLen, L_app, L_nl, List.length_append]
    exact Nat.add_sub_cancel _ _
  rw [e2, h]
  rfl
theorem closed0 : (lamT.all fun x => chkZ ((Str.ofString "h = lambda: ") ++ x).cps.toList) = true := by decide +kernel
theorem closedP : (plainT.all fun x => chkZ x.cps.toList) = true := by decide +kernel

theorem told_row {tx : Str} {ds : List Dat} (h : RowS tx ds) : toldOf tx = ds := by
  cases h with
  | @dfn pre name t ret body nm i p ds hpre hname hrun hi hret hbody =>
    have hA := head (List.all_eq_true.mp (List.all_eq_true.mp heads pre hpre) name hname)
    obtain ⟨rd, e, _, h1⟩ := prun goodD hA hrun
    have := end_def (h1 (by omega)) hret hbody
    rw [this, up_app, ← e, dueF_up]
  | @lam0 x hx => exact closed (List.all_eq_true.mp closed0 x hx)
  | @lam t x i ds hrun hi hx =>
    obtain ⟨rd, e, _, h1⟩ := prun goodL (head headL) hrun
    have := end_lam rfl (h1 (by omega)) (List.all_eq_true.mp tailsL x hx)
    rw [this, e]
    rfl
  | @call t x y i ds hrun hi hx hy =>
    obtain ⟨rd, e, _, h1⟩ := prun goodC (head headC) hrun
    have := end_lam (x := x ++ y) rfl (h1 (by omega)) (by rw [L_app]; exact List.all_eq_true.mp (List.all_eq_true.mp tailsC x hx) y hy)
    have ea : (((t ++ Str.ofString ": ") ++ x) ++ y) ++ Str.ofString "\n" = ((t ++ Str.ofString ": ") ++ (x ++ y)) ++ Str.ofString "\n" := by
      have : ∀ a b c : Str, (a ++ b) ++ c = a ++ (b ++ c) := fun a b c => by
        show (⟨(a.cps ++ b.cps) ++ c.cps⟩ : Str) = ⟨a.cps ++ (b.cps ++ c.cps)⟩
        rw [Array.append_assoc]
      rw [this (t ++ Str.ofString ": ") x y]
    rw [ea, this, e]
    rfl
  | @plain x hx => exact closed (List.all_eq_true.mp closedP x hx)
theorem ends10 {tx : Str} {ds : List Dat} (h : RowS tx ds) : ∃ body, tx.cps.toList = body ++ [10] := by
  cases h <;> (rw [L_app, L_nl]; exact ⟨_, rfl⟩)

theorem lens : (∀ p ∈ preT, ∀ n ∈ dnameT, (defHead p n).length ≤ 40) ∧ (∀ r ∈ retT, r.length ≤ 20) ∧ (∀ b ∈ bodyT, b.1.length ≤ 30) ∧ (∀ x ∈ lamT, x.length ≤ 20) ∧ (∀ y ∈ restT, y.length ≤ 20) ∧ (∀ x ∈ plainT, x.length ≤ 30) := by decide +kernel
theorem lenS : (Str.ofString "\n").length = 1 ∧ (Str.ofString ")").length = 1 ∧ (Str.ofString ":").length = 1 ∧ (Str.ofString ": ").length = 2 ∧ (Str.ofString "h = lambda: ").length ≤ 20 ∧ (Str.ofString "h = lambda ").length ≤ 20 ∧ (Str.ofString "g(x, lambda ").length ≤ 20 := by decide +kernel
theorem dueF_len {k : Int} {x : Str} : (dueF k x).length ≤ 1 := by unfold dueF; split <;> simp
theorem dueB_len {k p : Int} {x : Str} : (dueB k p x).length ≤ 1 := by unfold dueB; split <;> simp
theorem sizes {tx : Str} {ds : List Dat} (h : RowS tx ds) : tx.length ≤ 1000 ∧ ds.length ≤ 1100 := by
  obtain ⟨n1, n2, n3, n4, n5, n6, n7⟩ := lenS
  cases h with
  | @dfn pre name t ret body nm i p ds hpre hname hrun hi hret hbody =>
    have a := hrun.len
    have b1 := lens.1 _ hpre _ hname
    have b2 := lens.2.1 _ hret
    have b3 := lens.2.2.1 _ hbody
    dsimp only at b3
    have c1 := @dueF_len pre.length name
    have c2 := @dueB_len (defTail t ret).length p nm
    rw [List.length_append, List.length_append]
    refine ⟨?_, by omega⟩
    unfold defTail
    simp only [Str.length_append, n1, n2, n3]
    omega
  | @lam0 x hx =>
    have b := lens.2.2.2.1 _ hx
    refine ⟨?_, by decide⟩
    simp only [Str.length_append, n1]
    omega
  | @lam t x i ds hrun hi hx =>
    have a := hrun.len
    have b := lens.2.2.2.1 _ hx
    refine ⟨?_, by omega⟩
    simp only [Str.length_append, n1, n4]
    omega
  | @call t x y i ds hrun hi hx hy =>
    have a := hrun.len
    have b := lens.2.2.2.1 _ hx
    have b' := lens.2.2.2.2.1 _ hy
    refine ⟨?_, by omega⟩
    simp only [Str.length_append, n1, n4]
    omega
  | @plain x hx =>
    have b := lens.2.2.2.2.2 _ hx
    refine ⟨?_, by decide⟩
    simp only [Str.length_append, n1]
    omega
/-- what is due can be compared -/
def okD (ds : List Dat) : Prop := ∀ d ∈ ds, kqdOk 7 d = true
theorem ok_nil : okD [] := fun _ h => nomatch h
theorem ok_app {a b : List Dat} (ha : okD a) (hb : okD b) : okD (a ++ b) := fun d h => (List.mem_append.mp h).elim (ha d) (hb d)
theorem hard_ok : ∀ x ∈ hardT, PyData.strOk (e741 x) = true ∧ PyData.strOk (e743 x) = true := by decide +kernel
theorem ok_place {k : Int} {x : Str} (h : PyData.strOk x = true) : okD [place k x] := by
  intro d hd
  rw [List.mem_singleton] at hd
  subst hd
  simp [place, kqdOk, h]
theorem ok_N {k : Int} {x : Str} : okD (dueN k x) := by
  unfold dueN
  split
  · rename_i h; exact ok_place (hard_ok x h).1
  · exact ok_nil
theorem ok_F {k : Int} {x : Str} : okD (dueF k x) := by
  unfold dueF
  split
  · rename_i h; exact ok_place (hard_ok x h).2
  · exact ok_nil
theorem body_hard : ∀ b ∈ bodyT, 0 ≤ b.2.1 → b.2.2 ∈ hardT := by decide +kernel
theorem ok_run {b1 b2 : Bool} {t0 : Str} {i : Nat} {t : Str} {ds : List Dat} (h : PRun b1 b2 t0 i t ds) : okD ds := by
  induction h with
  | nil => exact ok_nil
  | star _ _ ih => exact ih
  | slash _ _ ih => exact ih
  | par _ _ _ _ _ ih => exact ok_app ih ok_N
theorem ok_row {tx : Str} {ds : List Dat} (h : RowS tx ds) : okD ds := by
  cases h with
  | @dfn pre name t ret body nm i p ds hpre hname hrun hi hret hbody =>
    refine ok_app (ok_app ok_F (ok_run hrun)) ?_
    unfold dueB
    split
    · rename_i h; exact ok_place (hard_ok _ (body_hard _ hbody h)).1
    · exact ok_nil
  | lam0 _ => exact ok_nil
  | lam hrun _ _ => exact ok_run hrun
  | call hrun _ _ _ => exact ok_run hrun
  | plain _ => exact ok_nil
theorem plain : Plain := fun tx ds h => ⟨told_row h, ends10 h, (sizes h).1, (by
  show ds.all (kqdOk 7) = true
  exact List.all_eq_true.mpr (ok_row h)), (sizes h).2⟩
end Mine

end

theorem PySem.Challenge.cw_et5026_01_holds : PySem.Challenge.rw_et5026_01.Holds := by
  exact Mine.t1 Mine.plain
