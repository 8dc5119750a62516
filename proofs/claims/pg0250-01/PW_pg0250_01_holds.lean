import PyProof.Rows.All
import Wide.All
import OpenK.AllK
import Wide.FinOn
import PySem.Challenge.RW_pg0250_01
open PySem PySem.W PyProof.Rows PySem.Calls PySem.Spec
set_option Elab.async false
set_option maxRecDepth 100000
set_option maxHeartbeats 20000000
namespace Mine
open_top hd for PySem.Challenge.rw_pg0250_01
end Mine
namespace Mine
abbrev prg : Program := PySem.Challenge.pw_pg0250_01
noncomputable def lz : List Str := looseW hd.view_39 [Str.ofString "_name_disallowed_re", Str.ofString "_value_disallowed_re"]
abbrev Led := List (Addr × Obj)
def retOf : Flow → Value
  | .ret v => v
  | _ => .none
abbrev AK (dp un : Nat) (gd : Option (List Code)) (outs : List Env) : Around := { handled := none, depth := dp, frames := some outs, guards := gd, units := un }
section
variable {prog : Program} {w : World} {s : Shared} {base : Heap} {outer : List Env} {K : Frag}
  {R : Result → Shared → Prop} {name qual : Str} {params : Arguments} {body : List Stmt} {scope : Scope} {dV kV doc pm cdv ct oc : Value} {an od : Option Addr} {osl : Array (Option Value)} {f : Addr} {args : Args} {binds : List (Str × Value)}
  {p : Program} {loose : List Str} {mean : ExcName → Option Value} {mg mb : Str → Option Value} {A : Around}
theorem enterK (B : Below A base outer s.heap) (X : K.In s.heap) (T : Top p loose mean mg mb s.heap)
    (ho : K.lookup f = some ⟨oc, od, .func (fnOf name qual params body scope dV kV doc pm an cdv ct), osl⟩) (hcd : codeIn K cdv qual = true) (hroom : A.depth < recursionLimit)
    (hbind : BindsTo s (fnOf name qual params body scope dV kV doc pm an cdv ct) args binds) (hloc : ∀ y ∈ binds, scope.names.lookup y.1 = some .local)
    (h : ∀ g L' h₁, g = s.heap → Fr g L' h₁ (fun y => binds.reverse.lookup y) → News g L' h₁ [] → Below A base outer g → K.In g → Top p loose mean mg mb g →
      wpAny (model prog w) (A.deeper (envOf qual scope L' f cdv)) (execs body (envOf qual scope L' f cdv))
        (fun fl s' => R (.ok (.ret (retOf fl))) s') (fun _ _ => False)
        { s with heap := h₁, toks := s.toks + binds.length })
    (hcell : ∀ x ∈ scope.names, x.2 ≠ .cell) (hco : scope.isCoroutine = false := by rfl) (hgen : scope.isGenerator = false := by rfl) (hk : scope.kind = .function := by rfl) :
    codeAny (model prog w) A (.call (.ref f) args) R s := by
  refine codeAny_call_def (fd := fnOf name qual params body scope dV kV doc pm an cdv ct) (body := body) (binds := binds) hroom (X _ _ ho) rfl T.nolimit (codeRec_of X hcd) rfl hbind hcell hloc (fun h₁ hns hk₁ => ?_) hco hgen hk
  exact wpAny_mono (h s.heap s.heap.objs.size h₁ rfl ⟨hns, hk₁, Nat.le_refl _⟩ (fun _ hp => nomatch hp) B X T) (fun fl s' hl => hl) fun _ _ y => y.elim
end
/-- a call of a def of the top: what comes back; all that stood still stands -/
def Tel (k : Nat) (w : World) (mean : ExcName → Option Value) (mg mb : Str → Option Value) (f : Addr) (vs : List Value) (kw : List (Str × Value)) (post : Value → Heap → Prop) (s : Shared) : Prop :=
  ∀ (dp un : Nat) (gd : Option (List Code)) (outs : List Env) (base : Heap) (Q E : Value → Shared → Prop),
    Below (AK dp un gd outs) base outs s.heap → (hd.heap_39 w.params).In s.heap → Top hd.view_39 lz mean mg mb s.heap → dp + k < recursionLimit → un + 10 * k < cLine →
    (∀ r h' tk', (∀ b o, s.heap.get? b = some o → h'.get? b = some o) → post r h' → Q r { s with heap := h', toks := tk' }) →
    wpAny (model prg w) (AK dp un gd outs) (call (.ref f) vs kw) Q E s
def Fill (_ : OpenLaw) (_ : Params → Frag) (G : Prop) : Prop := G
theorem fill_ok (G : Prop) (h : Fill PySem.Challenge.rw_pg0250_01 hd.heap_39 G) : G := h
section
variable {k : Nat} {w : World} {mean : ExcName → Option Value} {mg mb : Str → Option Value} {f : Addr} {vs : List Value} {kw : List (Str × Value)} {post : Value → Heap → Prop} {s : Shared} {dp un : Nat} {gd : Option (List Code)} {cn : Str} {cs : Scope} {a : Addr} {ccd : Value} {cl : List (Str × Addr)} {outer : List Env} {A₀ : Around} {base h₀ : Heap} {L : Addr} {m : Str → Option Value} {news : Led}
    {Q E : Value → Shared → Prop}
/-- from a frame of a def -/
theorem Tel.use (C : Tel k w mean mg mb f vs kw post s) (B : Below A₀ base outer h₀) (F : Fr h₀ L s.heap m) (X : (hd.heap_39 w.params).In h₀) (N : News h₀ L s.heap news) (T : Top hd.view_39 lz mean mg mb h₀) (hk : cs.kind = .function) (hdp : dp + k < recursionLimit) (hu : un + 10 * k < cLine)
    (ret : ∀ r h' tk', post r h' → Fr h₀ L h' m → News h₀ L h' news → Q r { s with heap := h', toks := tk' }) :
    wpAny (model prg w) (ktrTop dp un gd cn cs L a ccd cl outer) (call (.ref f) vs kw) Q E s :=
  have P := pushX (env := envX cn cs L a ccd cl) B F rfl hk
  C dp un gd (envX cn cs L a ccd cl :: outer) base Q E ⟨rfl, P.stays, P.frames⟩ (X.keeps F.keep) (T.keeps F.keep) hdp hu fun r h' tk' st hp => ret r h' tk' hp (F.grownK st) (N.grown st)
/-- from a comprehension's element: its own dict is the frame -/
theorem Tel.useC {outs : List Env} {bs : Heap} (C : Tel k w mean mg mb f vs kw post s) (B : Below (AK dp un gd outs) base outs bs) (F : Fr bs L s.heap m) (X : (hd.heap_39 w.params).In bs) (N : News bs L s.heap news) (T : Top hd.view_39 lz mean mg mb bs) (hdp : dp + k < recursionLimit) (hu : un + 10 * k < cLine)
    (ret : ∀ r h' tk', post r h' → Fr bs L h' m → News bs L h' news → Q r { s with heap := h', toks := tk' }) :
    wpAny (model prg w) (AK dp un gd outs) (call (.ref f) vs kw) Q E s :=
  C dp un gd outs base Q E ⟨rfl, fun b o e => F.keep b o (B.stays b o e), B.frames.of_keeps fun b o e _ => ⟨o, F.keep b o e, rfl⟩⟩ (X.keeps F.keep) (T.keeps F.keep) hdp hu fun r h' tk' st hp => ret r h' tk' hp (F.grownK st) (N.grown st)
theorem got {h' : Heap} {o : Obj} {b : Addr} (F : Fr h₀ L s.heap m) (N : News h₀ L h' news) (hb : h'.get? b = some o) (fr : s.heap.get? b = none) : News h₀ L h' ((b, o) :: news) := by
  intro p hp
  rcases List.mem_cons.mp hp with rfl | hp
  · refine ⟨hb, ?_, ?_⟩
    · rintro rfl
      obtain ⟨o', _, _, e, _⟩ := F.ns
      rw [fr] at e; cases e
    · cases q : h₀.get? b with
      | none => rfl
      | some o' => have := F.keep _ _ q; rw [fr] at this; cases this
  · exact N p hp
end
section
variable {prog : Program} {w : World} {A : Around} {E : Value → Shared → Prop} {s : Shared} {Q : Value → Shared → Prop} {h₀ : Heap} {L : Addr} {m : Str → Option Value} {news : List (Addr × Obj)}
def cmpL (x y : UInt64) : Bool := Float64.cmp x y == some .lt
def big2 (x y : UInt64) : UInt64 := if cmpL x y = true then y else x
def small2 (x y : UInt64) : UInt64 := if cmpL y x = true then y else x

theorem pick3 {vs : Array Value} {i : Nat} {v : Value} {a b c : Value} (e : vs = #[a, b, c]) (h : vs[i]? = some v) (h3 : i < 3) : v = if i = 0 then a else if i = 1 then b else c := by
  subst e
  rcases i with _ | _ | _ | i
  · simpa using h.symm
  · simpa using h.symm
  · simpa using h.symm
  · omega
theorem argBest_le (bt : Nat → Nat → Bool) : ∀ k, argBest bt k ≤ k
  | 0 => Nat.le_refl _
  | k + 1 => by
    have := argBest_le bt k
    unfold argBest
    split <;> omega
theorem max3F {x y z : UInt64} {t u v : Tok} (hh : A.handled = none) (F : Fr h₀ L s.heap m) (N : News h₀ L s.heap news)
    (h : ∀ h' tk r, Fr h₀ L h' m → News h₀ L h' news → Q (.float (big2 (big2 x y) z) r) { s with heap := h', toks := tk }) :
    wpAny (model prog w) A (call (.builtin "max") [.float x t, .float y u, .float z v]) Q E s := by
  have hT : (s.heap.push { cls := .type "tuple", data := .seq #[.float x t, .float y u, .float z v] }).IsTuple s.heap.objs.size #[.float x t, .float y u, .float z v] := ⟨_, Heap.get?_push_size _ rfl, rfl, 0, rfl⟩
  refine call_max_three (wpAny_pyIter_tuple hT ?_)
  have hsz : (s.heap.push { cls := .type "tuple", data := .seq #[.float x t, .float y u, .float z v] }).objs.size = s.heap.objs.size + 1 := Heap.size_push ..
  refine ⟨_, [_, s.heap.objs.size], [_], _, _, _, _, rfl, Walks.tuple (A := A.in1) hh _ s.heap.objs.size (by rw [hsz]; exact Nat.ne_of_lt (Nat.lt_succ_self _)) #[.float x t, .float y u, .float z v],
    ⟨⟨_, Heap.get?_push_size _ rfl, rfl, rfl⟩, hT.push _⟩, fun c hc => ?_, by simp, Flt.cmpOf_gt #[.float x t, .float y u, .float z v] (by simp [Flt.NumV.float]), fun r h' tk hP hk => ?_⟩
  · show c < ((s.heap.push _).push _).objs.size
    rw [Heap.size_push, hsz]
    (try rw [hsz] at hc)
    simp only [List.mem_cons, List.not_mem_nil, or_false] at hc
    rcases hc with hc | hc
    · have q : @Eq Nat c _ := hc
      rw [q]
      exact Nat.lt_succ_self _
    · have q : @Eq Nat c _ := hc
      rw [q]
      exact Nat.lt_succ_of_lt (Nat.lt_succ_self _)
  · have hold : ∀ c o, s.heap.get? c = some o → h'.get? c = some o := fun c o e => by
      refine hk c o (fun hm => ?_) (Heap.get?_push_of_some _ (Heap.get?_push_of_some _ e))
      have := Heap.lt_size e
      simp only [List.mem_cons, List.not_mem_nil, or_false] at hm
      have q : @Eq Nat c _ := hm
      rw [q, hsz] at this
      exact Nat.lt_irrefl _ (Nat.lt_of_succ_lt this)
    have key := fun r => h h' tk r (F.grownK hold) (N.grown hold)
    have hP' := pick3 rfl hP (Nat.lt_of_le_of_lt (argBest_le _ _) (by simp))
    simp only [big2, cmpL] at key
    cases h1 : (Float64.cmp x y == some Ordering.lt) <;> simp only [h1, if_true, if_false, Bool.false_eq_true] at key
    · cases h2 : (Float64.cmp x z == some Ordering.lt) <;> simp [argBest, Flt.ltV, Array.getD_eq_getD_getElem?, h1, h2] at hP' <;> simp [h2] at key <;> subst hP' <;> exact key _
    · cases h2 : (Float64.cmp y z == some Ordering.lt) <;> simp [argBest, Flt.ltV, Array.getD_eq_getD_getElem?, h1, h2] at hP' <;> simp [h2] at key <;> subst hP' <;> exact key _
theorem min3F {x y z : UInt64} {t u v : Tok} (hh : A.handled = none) (F : Fr h₀ L s.heap m) (N : News h₀ L s.heap news)
    (h : ∀ h' tk r, Fr h₀ L h' m → News h₀ L h' news → Q (.float (small2 (small2 x y) z) r) { s with heap := h', toks := tk }) :
    wpAny (model prog w) A (call (.builtin "min") [.float x t, .float y u, .float z v]) Q E s := by
  have hT : (s.heap.push { cls := .type "tuple", data := .seq #[.float x t, .float y u, .float z v] }).IsTuple s.heap.objs.size #[.float x t, .float y u, .float z v] := ⟨_, Heap.get?_push_size _ rfl, rfl, 0, rfl⟩
  refine call_min_three (wpAny_pyIter_tuple hT ?_)
  have hsz : (s.heap.push { cls := .type "tuple", data := .seq #[.float x t, .float y u, .float z v] }).objs.size = s.heap.objs.size + 1 := Heap.size_push ..
  refine ⟨_, [_, s.heap.objs.size], [_], _, _, _, _, rfl, Walks.tuple (A := A.in1) hh _ s.heap.objs.size (by rw [hsz]; exact Nat.ne_of_lt (Nat.lt_succ_self _)) #[.float x t, .float y u, .float z v],
    ⟨⟨_, Heap.get?_push_size _ rfl, rfl, rfl⟩, hT.push _⟩, fun c hc => ?_, by simp, Flt.cmpOf_lt #[.float x t, .float y u, .float z v] (by simp [Flt.NumV.float]), fun r h' tk hP hk => ?_⟩
  · show c < ((s.heap.push _).push _).objs.size
    rw [Heap.size_push, hsz]
    (try rw [hsz] at hc)
    simp only [List.mem_cons, List.not_mem_nil, or_false] at hc
    rcases hc with hc | hc
    · have q : @Eq Nat c _ := hc
      rw [q]
      exact Nat.lt_succ_self _
    · have q : @Eq Nat c _ := hc
      rw [q]
      exact Nat.lt_succ_of_lt (Nat.lt_succ_self _)
  · have hold : ∀ c o, s.heap.get? c = some o → h'.get? c = some o := fun c o e => by
      refine hk c o (fun hm => ?_) (Heap.get?_push_of_some _ (Heap.get?_push_of_some _ e))
      have := Heap.lt_size e
      simp only [List.mem_cons, List.not_mem_nil, or_false] at hm
      have q : @Eq Nat c _ := hm
      rw [q, hsz] at this
      exact Nat.lt_irrefl _ (Nat.lt_of_succ_lt this)
    have key := fun r => h h' tk r (F.grownK hold) (N.grown hold)
    have hP' := pick3 rfl hP (Nat.lt_of_le_of_lt (argBest_le _ _) (by simp))
    simp only [small2, cmpL] at key
    cases h1 : (Float64.cmp y x == some Ordering.lt) <;> simp only [h1, if_true, if_false, Bool.false_eq_true] at key
    · cases h2 : (Float64.cmp z x == some Ordering.lt) <;> simp [argBest, Flt.ltV, Array.getD_eq_getD_getElem?, h1, h2] at hP' <;> simp [h2] at key <;> subst hP' <;> exact key _
    · cases h2 : (Float64.cmp z y == some Ordering.lt) <;> simp [argBest, Flt.ltV, Array.getD_eq_getD_getElem?, h1, h2] at hP' <;> simp [h2] at key <;> subst hP' <;> exact key _
end
local macro_rules | `(tactic| k_room) => `(tactic| ktr_room)
local macro_rules | `(tactic| k_units) => `(tactic| ktr_units)
local macro_rules | `(tactic| ktn_open) => `(tactic| (
  refine wpAny_call ?_
  k_dflt (refine' enterK ?k1 ?k3 ?k5 ?k6 ?k7 ?k8 ?k9 ?kB ?_ ?c5 ?c2 ?c3 ?c4; (case k1 => assumption); (case k3 => assumption); (case k5 => assumption); (case k6 => k_is); (case k7 => k_is); (case k8 => ktr_room); (case k9 => exact BindsTo.of_eq rfl); (case c5 => decide); (case kB => exact locs rfl); (case c2 => exact rfl); (case c3 => exact rfl); (case c4 => exact rfl))))
section
local macro_rules | `(tactic| walk_at "call builtin:max") => `(tactic| (k_here; (with_reducible show wpAny _ _ (call (Value.builtin _) [Value.float _ _, Value.float _ _, Value.float _ _]) _ _ _); (refine' max3F ?k1 ?k2 ?k3 ?_; (case k1 => exact rfl); (case k2 => k_asm); (case k3 => k_asm); k_whole); intro h' tk' r' F' N'; (try k_sweep)))
local macro_rules | `(tactic| walk_at "call builtin:min") => `(tactic| (k_here; (with_reducible show wpAny _ _ (call (Value.builtin _) [Value.float _ _, Value.float _ _, Value.float _ _]) _ _ _); (refine' min3F ?k1 ?k2 ?k3 ?_; (case k1 => exact rfl); (case k2 => k_asm); (case k3 => k_asm); k_whole); intro h' tk' r' F' N'; (try k_sweep)))
theorem fill0 : True := by
  apply fill_ok
  k_fill
  trivial
abbrev fl6 : UInt64 := 4618441417868443648
abbrev fl1 : UInt64 := 4607182418800017408
def hI (x : UInt64) : Int := Flt.toInt Float64.truncOf (Float64.mul x fl6)
def hF (x : UInt64) : UInt64 := Float64.sub (Float64.mul x fl6) (Float64.ofInt (hI x))
def hQ (x : UInt64) : UInt64 := Float64.mul fl1 (Float64.sub fl1 (Float64.mul fl1 (hF x)))
def hT (x : UInt64) : UInt64 := Float64.mul fl1 (Float64.sub fl1 (Float64.mul fl1 (Float64.sub fl1 (hF x))))
def hP : UInt64 := Float64.mul fl1 (Float64.sub fl1 fl1)
def hsvR (x : UInt64) : UInt64 × UInt64 × UInt64 :=
  if (hI x).fmod 6 = 0 then (fl1, hT x, hP) else if (hI x).fmod 6 = 1 then (hQ x, fl1, hP) else if (hI x).fmod 6 = 2 then (hP, fl1, hT x) else
  if (hI x).fmod 6 = 3 then (hP, hQ x, fl1) else if (hI x).fmod 6 = 4 then (hT x, hP, fl1) else (fl1, hP, hQ x)
def tup (vs : List Value) : Obj := { cls := .type "tuple", data := .seq vs.toArray }
def FlTup (s : Shared) (p : UInt64 × UInt64 × UInt64) (r : Value) (h' : Heap) : Prop :=
  ∃ a t₁ t₂ t₃, r = .ref a ∧ h'.get? a = some (tup [.float p.1 t₁, .float p.2.1 t₂, .float p.2.2 t₃]) ∧ s.heap.get? a = none
theorem FlTup.mk {s : Shared} {p : UInt64 × UInt64 × UInt64} {x y z : UInt64} {a : Addr} {t₁ t₂ t₃ : Tok} {g h' : Heap} {L' : Addr} {news : List (Addr × Obj)} (hg : g = s.heap) (N : News g L' h' news) (hm : (a, tup [.float x t₁, .float y t₂, .float z t₃]) ∈ news) (e : p = (x, y, z)) : FlTup s p (.ref a) h' := by
  subst e hg
  exact ⟨a, t₁, t₂, t₃, rfl, (N _ hm).1, (N _ hm).2.2⟩

theorem fm6 (k : Int) (h0 : k.fmod 6 ≠ 0) (h1 : k.fmod 6 ≠ 1) (h2 : k.fmod 6 ≠ 2) (h3 : k.fmod 6 ≠ 3) (h4 : k.fmod 6 ≠ 4) (h5 : k.fmod 6 ≠ 5) : False := by
  have e6 := Int.fmod_eq_emod_of_nonneg k (show (0 : Int) ≤ 6 by decide)
  omega
theorem big_no {k : Int} (h0 : 0 ≤ k) (h1 : k < 100) (h : 2 ^ 1024 - 2 ^ 970 ≤ k.natAbs) : False := by
  have hb : 100 ≤ 2 ^ 1024 - 2 ^ 970 := by decide +kernel
  have := Nat.le_trans hb h
  omega
theorem hsv (w : World) (mean : ExcName → Option Value) (mg mb : Str → Option Value) (s : Shared) (x : UInt64) (t t₁ t₂ : Tok) (hfin : Float64.isFinite (Float64.mul x fl6) = true) (hs0 : 0 ≤ hI x) (hs : hI x < 100) :
    Tel 6 w mean mg mb 52 [.float x t, .float fl1 t₁, .float fl1 t₂] [] (FlTup s (hsvR x)) s := by
  unfold Tel
  intro dp un gd outs base Q E B X T hdp hu hret
  ktn_open
  intro g L' h₁ hg F' N' B' X' T'
  try dsimp only
  try k_fold
  k_steps
  all_goals first
    | exact absurd ‹(Float64.cmp fl1 0 == some Ordering.eq) = true› (by decide +kernel)
    | (show qk _ _; dsimp only [qk]; refine hret _ _ _ (hg ▸ Fr.keep (by assumption)) (FlTup.mk hg (by assumption) (by k_mem) ?_); simp_all [hsvR, hI, hF, hQ, hT, hP]; done)
    | ((rename (2 ^ 1024 - 2 ^ 970 ≤ _) => hz); exact big_no (k := hI x) hs0 hs hz)
    | exact (fm6 (hI x) (by assumption) (by assumption) (by assumption) (by assumption) (by assumption) (by assumption)).elim

def mxc (x y z : UInt64) : UInt64 := big2 (big2 x y) z
def mnc (x y z : UInt64) : UInt64 := small2 (small2 x y) z
def rng (x y z : UInt64) : UInt64 := Float64.sub (mxc x y z) (mnc x y z)
def part (x y z u : UInt64) : UInt64 := Float64.div (Float64.sub (mxc x y z) u) (rng x y z)
def rgbH (x y z : UInt64) : UInt64 :=
  if (Float64.cmp x (mxc x y z) == some Ordering.eq) = true then Float64.sub (part x y z z) (part x y z y)
  else if (Float64.cmp y (mxc x y z) == some Ordering.eq) = true then Float64.sub (Float64.add 4611686018427387904 (part x y z x)) (part x y z z)
  else Float64.sub (Float64.add 4616189618054758400 (part x y z y)) (part x y z x)
def rgbR (x y z : UInt64) : UInt64 × UInt64 × UInt64 := ((Float64.divmod (Float64.div (rgbH x y z) fl6) fl1).snd, Float64.div (rng x y z) (mxc x y z), mxc x y z)

theorem rgb (w : World) (mean : ExcName → Option Value) (mg mb : Str → Option Value) (s : Shared) (x y z : UInt64) (t t₁ t₂ : Tok)
    (hne : (Float64.cmp (small2 (small2 x y) z) (big2 (big2 x y) z) == some Ordering.eq) = false) (hz1 : ¬ Float64.isZero (big2 (big2 x y) z) = true)
    (hz2 : ¬ Float64.isZero (Float64.sub (big2 (big2 x y) z) (small2 (small2 x y) z)) = true) :
    Tel 6 w mean mg mb 45 [.float x t, .float y t₁, .float z t₂] [] (FlTup s (rgbR x y z)) s := by
  unfold Tel
  intro dp un gd outs base Q E B X T hdp hu hret
  ktn_open
  intro g L' h₁ hg F' N' B' X' T'
  try dsimp only
  try k_fold
  k_steps
  all_goals first
    | ((have q := ‹(Float64.cmp (small2 (small2 x y) z) (big2 (big2 x y) z) == some Ordering.eq) = true›); rw [hne] at q; cases q)
    | (exact absurd ‹_› hz1)
    | (exact absurd ‹_› hz2)
    | (show qk _ _; dsimp only [qk]; refine hret _ _ _ (hg ▸ Fr.keep (by assumption)) (FlTup.mk hg (by assumption) (by k_mem) ?_); simp only [rgbR, rgbH, part, rng, mxc, mnc, *, if_true, if_false, Bool.false_eq_true]; done)
end
section
local macro_rules | `(tactic| walk_at "pad") => `(tactic| fail "pad")
section
variable {k : Nat} {w : World} {mean : ExcName → Option Value} {mg mb : Str → Option Value} {f : Addr} {vs : List Value} {s : Shared} {dp un : Nat} {gd : Option (List Code)} {cn : Str} {cs : Scope} {a : Addr} {ccd : Value} {cl : List (Str × Addr)} {outer : List Env} {A₀ : Around} {base h₀ : Heap} {L : Addr} {m : Str → Option Value} {news : Led}
    {Q E : Value → Shared → Prop}
theorem FlTup.use {p : UInt64 × UInt64 × UInt64} (C : Tel k w mean mg mb f vs [] (FlTup s p) s) (B : Below A₀ base outer h₀) (F : Fr h₀ L s.heap m) (X : (hd.heap_39 w.params).In h₀) (N : News h₀ L s.heap news) (T : Top hd.view_39 lz mean mg mb h₀) (hk : cs.kind = .function) (hdp : dp + k < recursionLimit) (hu : un + 10 * k < cLine)
    (ret : ∀ b t₁ t₂ t₃ h' tk', Fr h₀ L h' m → News h₀ L h' ((b, { cls := .type "tuple", data := .seq #[.float p.1 t₁, .float p.2.1 t₂, .float p.2.2 t₃] }) :: news) → Q (.ref b) { s with heap := h', toks := tk' }) :
    wpAny (model prg w) (ktrTop dp un gd cn cs L a ccd cl outer) (call (.ref f) vs) Q E s := by
  refine C.use B F X N T hk hdp hu fun r h' tk' hp F' N' => ?_
  obtain ⟨b, t₁, t₂, t₃, rfl, hb, fr⟩ := hp
  exact ret b t₁ t₂ t₃ h' tk' F' (got F N' hb fr)
end
def hueR (x : UInt64) : UInt64 := (rgbR (hsvR x).1 (hsvR x).2.1 (hsvR x).2.2).1
/-- what the two callees ask of the hue -/
structure HueOk (x : UInt64) : Prop where
  fin : Float64.isFinite (Float64.mul x fl6) = true
  lo : 0 ≤ hI x
  hi : hI x < 100
  ne : (Float64.cmp (small2 (small2 (hsvR x).1 (hsvR x).2.1) (hsvR x).2.2) (big2 (big2 (hsvR x).1 (hsvR x).2.1) (hsvR x).2.2) == some Ordering.eq) = false
  z1 : ¬ Float64.isZero (big2 (big2 (hsvR x).1 (hsvR x).2.1) (hsvR x).2.2) = true
  z2 : ¬ Float64.isZero (Float64.sub (big2 (big2 (hsvR x).1 (hsvR x).2.1) (hsvR x).2.2) (small2 (small2 (hsvR x).1 (hsvR x).2.1) (hsvR x).2.2)) = true
local macro_rules | `(tactic| walk_at "call ref") => `(tactic| (k_here; (with_reducible show wpAny _ _ (call (Value.ref 52) _) _ _ _); (k_dflt (refine' FlTup.use (hsv _ _ _ _ _ _ _ _ _ ?h1 ?h2 ?h3) ?k1 ?k2 ?k3 ?k4 ?k5 ?k6 ?k7 ?k8 ?_)); (case h1 => exact HueOk.fin (by assumption)); (case h2 => exact HueOk.lo (by assumption)); (case h3 => exact HueOk.hi (by assumption)); (case k1 => k_asm); (case k2 => k_asm); (case k3 => k_asm); (case k4 => k_asm); (case k5 => k_asm); (case k6 => exact rfl); (case k7 => ktr_room); (case k8 => ktr_units); k_whole; intro b' t₁ t₂ t₃ h' tk' F' N'; (try dsimp only); (try k_fold)))
local macro_rules | `(tactic| walk_at "call ref") => `(tactic| (k_here; (with_reducible show wpAny _ _ (call (Value.ref 45) _) _ _ _); (k_dflt (refine' FlTup.use (rgb _ _ _ _ _ _ _ _ _ _ _ ?h1 ?h2 ?h3) ?k1 ?k2 ?k3 ?k4 ?k5 ?k6 ?k7 ?k8 ?_)); (case h1 => exact HueOk.ne (by assumption)); (case h2 => exact HueOk.z1 (by assumption)); (case h3 => exact HueOk.z2 (by assumption)); (case k1 => k_asm); (case k2 => k_asm); (case k3 => k_asm); (case k4 => k_asm); (case k5 => k_asm); (case k6 => exact rfl); (case k7 => ktr_room); (case k8 => ktr_units); k_whole; intro b' t₁ t₂ t₃ h' tk' F' N'; (try dsimp only); (try k_fold)))
theorem hue (w : World) (mean : ExcName → Option Value) (mg mb : Str → Option Value) (s : Shared) (x : UInt64) (t : Tok) (ok : HueOk x) :
    Tel 12 w mean mg mb 224 [.float x t] [] (fun r _ => ∃ t', r = .float (hueR x) t') s := by
  unfold Tel
  intro dp un gd outs base Q E B X T hdp hu hret
  ktn_open
  intro g L' h₁ hg F' N' B' X' T'
  try dsimp only
  try k_fold
  k_steps
  exact hret _ _ _ (hg ▸ Fr.keep (by assumption)) ⟨_, rfl⟩
def hueB (x : UInt64) : Bool :=
  Float64.isFinite (Float64.mul x fl6) && decide (0 ≤ hI x) && decide (hI x < 100) &&
  !(Float64.cmp (small2 (small2 (hsvR x).1 (hsvR x).2.1) (hsvR x).2.2) (big2 (big2 (hsvR x).1 (hsvR x).2.1) (hsvR x).2.2) == some Ordering.eq) &&
  !Float64.isZero (big2 (big2 (hsvR x).1 (hsvR x).2.1) (hsvR x).2.2) &&
  !Float64.isZero (Float64.sub (big2 (big2 (hsvR x).1 (hsvR x).2.1) (hsvR x).2.2) (small2 (small2 (hsvR x).1 (hsvR x).2.1) (hsvR x).2.2))
theorem HueOk.of {x : UInt64} (h : hueB x = true) : HueOk x := by
  unfold hueB at h
  simp only [Bool.and_eq_true, decide_eq_true_eq, Bool.not_eq_true'] at h
  obtain ⟨⟨⟨⟨⟨h1, h2⟩, h3⟩, h4⟩, h5⟩, h6⟩ := h
  exact ⟨h1, h2, h3, h4, by rw [h5]; decide, by rw [h6]; decide⟩
def steps4 : List UInt64 := [0, 4598175219545276416, 4602678819172646912, 4604930618986332160]
theorem t4 : (steps4.all fun x => hueB x && steps4.all fun y => hueB (Float64.add (hueR x) y)) = true := by decide +kernel
end
theorem pa_pat : PlainAttrs "re.Pattern" :=
  ⟨⟨"object.__getattribute__", by rw [typeLookup_type, builtinLookup_eq_fast]; kernel_rfl, by decide +kernel⟩, by rw [typeLookup_type, builtinLookup_eq_fast]; kernel_rfl⟩
theorem slot_search : Slot "re.Pattern" "search" "re.Pattern.search" :=
  .of (owner := "re.Pattern") (n := "search") (by rw [typeLookup_type, builtinLookup_eq_fast]; kernel_rfl) (by decide +kernel) (by decide +kernel) (by decide +kernel)
    (by first | exact .inl (by decide +kernel) | exact .inr (by decide +kernel)) (by rw [isSubtype_type]; kernel_rfl)
theorem type_search : typeOf (.builtin "re.Pattern.search") = pure (.type "method_descriptor") := by show builtinType _ = _; rw [builtinType_eq_fast]; kernel_rfl
theorem entry_search : entryFor table "re.Pattern.search" = some Builtin.«re.Pattern.search» := entryFor_of_tree (by kernel_rfl)
theorem args_search (a b : Value) : argsOk "re.Pattern.search" ⟨[a, b], []⟩ := by unfold argsOk; kernel_rfl
/-- the first leaf behind the rule marks -/
def dry {α : Type} : Nat → Sem α → Option α
  | 0, _ => none
  | n + 1, .rule _ k => dry n (k ())
  | _ + 1, .pure a => some a
  | _ + 1, _ => none
theorem dry_wp {α : Type} {M : Model} {A : Around} {E : Value → Shared → Prop} {s : Shared} {a : α} {Q : α → Shared → Prop} (hq : Q a s) : ∀ (n : Nat) (t : Sem α), dry n t = some a → wpAny M A t Q E s
  | 0, _, h => by cases h
  | n + 1, .rule _ k, h => wpAny_bind (m := .rule "" .pure) (f := fun _ => k ()) (wpAny_rule (dry_wp hq n (k ()) h))
  | n + 1, .pure b, h => by cases h; exact wpAny_pure hq
  | _ + 1, .raise _, h => by cases h
  | _ + 1, .unsupported _, h => by cases h
  | _ + 1, .finish _, h => by cases h
  | _ + 1, .at .., h => by cases h
  | _ + 1, .load .., h => by cases h
  | _ + 1, .update .., h => by cases h
  | _ + 1, .alloc .., h => by cases h
  | _ + 1, .loadIfAlive .., h => by cases h
  | _ + 1, .point .., h => by cases h
  | _ + 1, .register .., h => by cases h
  | _ + 1, .fresh .., h => by cases h
  | _ + 1, .ask .., h => by cases h
  | _ + 1, .choose .., h => by cases h
  | _ + 1, .os .., h => by cases h
  | _ + 1, .call .., h => by cases h
  | _ + 1, .handled .., h => by cases h
  | _ + 1, .newGen .., h => by cases h
  | _ + 1, .genState .., h => by cases h
  | _ + 1, .resume .., h => by cases h
  | _ + 1, .yield .., h => by cases h
  | _ + 1, .stack .., h => by cases h
  | _ + 1, .fork .., h => by cases h
  | _ + 1, .thread .., h => by cases h
  | _ + 1, .await .., h => by cases h
def codeN : List Value := [14, 10, 4, 1, 1, 22, 0, 31, 16, 127, 0, 13, 7, 22, 0, 31, 16, 127, 0, 1].map fun n : Nat => Value.int n 0
def codeV : List Value := [14, 14, 4, 1, 1, 9, 4294966783, 0, 0, 2147483648, 0, 0, 0, 0, 0, 13, 11, 9, 4294966783, 0, 0, 2147483648, 0, 0, 0, 0, 0, 1].map fun n : Nat => Value.int n 0
def scan (code : List Value) (x : Str) : Bool :=
  match dry 3000 (Builtin.Re.reRunToEnd (Sre.forSearch ((code.toArray.map Builtin.Re.reRawOf).map (·.toNat)) x.cps 0 (min (0 : Int).toNat x.cps.size) (min (2 ^ 63 - 1 : Int).toNat x.cps.size) false)) with
  | some none => true
  | _ => false
theorem scan_ex : (scan codeN (Str.ofString "stop-3") && scan codeV (Str.ofString "4")) = true := by decide +kernel
theorem scan_dry {code : List Value} {x : Str} (h : scan code x = true) : dry 3000 (Builtin.Re.reRunToEnd (Sre.forSearch ((code.toArray.map Builtin.Re.reRawOf).map (·.toNat)) x.cps 0 (min (0 : Int).toNat x.cps.size) (min (2 ^ 63 - 1 : Int).toNat x.cps.size) false)) = some none := by
  unfold scan at h
  split at h
  · assumption
  · cases h
section
variable {prog : Program} {w : World} {A : Around} {E : Value → Shared → Prop} {s : Shared}
theorem call_search {a tp : Addr} {p fl : Value} {code : List Value} {x : Str} {t : Tok} {k : Nat} {Q : Value → Shared → Prop}
    (ho : s.heap.get? a = some { cls := .type "re.Pattern", data := .fields #[p, fl, .int 0 0, .none, .none, .ref tp, .int 0 0] })
    (ht : s.heap.get? tp = some { cls := .type "tuple", data := .seq code.toArray k }) (hs : scan code x = true) (h : Q .none s) :
    wpAny (model prog w) A (call (.builtin "re.Pattern.search") [.ref a, .str x t]) Q E s := by
  have hT : s.TypeIs (.ref a) "re.Pattern" := ⟨_, ho, rfl⟩
  refine wpAny_call_entry slot_search hT entry_search ?_ (args_search _ _)
  show wpAny _ _ (Builtin.Re.reTarget "re.Pattern.search" "search" ⟨[.ref a, .str x t], []⟩ >>= fun t => Builtin.Re.reAnswer t (Sre.forSearch t.code t.text t.groups t.pos t.lim false)) _ _ _
  refine wpAny_bind ?_
  unfold Builtin.Re.reTarget
  refine wpAny_bind (wpAny_of_eq (show Builtin.Re.reNamed "re.Pattern.search" "search" ["string", "pos", "endpos"] 1 [.str x t] [] = pure [some (.str x t), none, none] from rfl) ?_)
  simp only [pure_bind]
  refine wpAny_bind (m := fieldsOf (.ref a)) ?_
  show wpAny _ _ (load a >>= _) _ _ _
  refine wpAny_bind (wpAny_load ho (wpAny_pure ?_))
  refine wpAny_bind (wpAny_of_eq (show Builtin.Re.reTextOf (.str x t) = pure (x.cps, 0) from rfl) ?_)
  rw [if_neg (by simp [Builtin.Re.reRawNat]), if_neg (by simp [Builtin.Re.reRawNat])]
  refine wpAny_bind (wpAny_of_eq (show Builtin.Re.reNoCollectionInside (.str x t) (x.cps, 0).snd = pure () from rfl) ?_)
  refine wpAny_bind (m := Builtin.Re.reRawItems (.ref tp)) ?_
  show wpAny _ _ (seqItems? (.ref tp) >>= _) _ _ _
  refine wpAny_bind (wpAny_seqItems ht rfl (wpAny_pure (wpAny_pure ?_)))
  show wpAny _ _ (Builtin.Re.reRunToEnd (Sre.forSearch ((code.toArray.map Builtin.Re.reRawOf).map (·.toNat)) x.cps 0 (min (0 : Int).toNat x.cps.size) (min (2 ^ 63 - 1 : Int).toNat x.cps.size) false) >>= _) _ _ _
  refine wpAny_bind (dry_wp (a := none) ?_ _ _ (scan_dry hs))
  exact wpAny_pure ⟨_, rfl, h⟩
theorem get_search {a : Addr} {fs : Array Value} {pl : Sem Bool} {Q : Value × List Value → Shared → Prop} (ho : s.heap.get? a = some { cls := .type "re.Pattern", data := .fields fs })
    (h : Q (.builtin "re.Pattern.search", [.ref a]) s) : wpAny (model prog w) A (getMethod (.ref a) "search" pl) Q E s :=
  getMethod_builtin ⟨_, ho, rfl⟩ pa_pat slot_search type_search (fun b e => by cases e; exact ⟨_, ho, rfl⟩) h
end
section
local macro_rules | `(tactic| walk_at "pad") => `(tactic| fail "pad")
local macro_rules | `(tactic| walk_at "pad") => `(tactic| fail "pad")
theorem get_searchK {K : Frag} {A : Around} {E : Value → Shared → Prop} {s : Shared} {h₀ : Heap} {L a : Addr} {m : Str → Option Value} {fs : Array Value} {pl : Sem Bool} {Q : Value × List Value → Shared → Prop} {prog : Program} {w : World} (F : Fr h₀ L s.heap m) (X : K.In h₀)
    (hl : K.lookup a = some { cls := .type "re.Pattern", data := .fields fs }) (h : Q (.builtin "re.Pattern.search", [.ref a]) s) : wpAny (model prog w) A (getMethod (.ref a) "search" pl) Q E s :=
  get_search (X.keeps F.keep _ _ hl) h
theorem call_searchK {K : Frag} {A : Around} {E : Value → Shared → Prop} {s : Shared} {h₀ : Heap} {L a tp : Addr} {m : Str → Option Value} {prog : Program} {w : World} {p fl : Value} {code : List Value} {x : Str} {t : Tok} {k : Nat} {Q : Value → Shared → Prop} (F : Fr h₀ L s.heap m) (X : K.In h₀)
    (ho : K.lookup a = some { cls := .type "re.Pattern", data := .fields #[p, fl, .int 0 0, .none, .none, .ref tp, .int 0 0] })
    (ht : K.lookup tp = some { cls := .type "tuple", data := .seq code.toArray k }) (hs : scan code x = true) (h : Q .none s) :
    wpAny (model prog w) A (call (.builtin "re.Pattern.search") [.ref a, .str x t]) Q E s :=
  call_search (X.keeps F.keep _ _ ho) (X.keeps F.keep _ _ ht) hs h
local macro_rules | `(tactic| walk_at "getMethod ref") => `(tactic| (k_here; (with_reducible show wpAny _ _ (getMethod (Value.ref _) (Str.ofString "search") _) _ _ _); (k_dflt (refine' get_searchK ?k1 ?k2 ?k3 ?_; (case k1 => k_asm); (case k2 => k_asm); (case k3 => k_is); k_whole))))
local macro_rules | `(tactic| walk_at "call builtin:re.Pattern.search") => `(tactic| (k_here; (k_dflt (refine' call_searchK ?k1 ?k2 ?k3 ?k4 ?k5 ?_; (case k1 => k_asm); (case k2 => k_asm); (case k3 => k_is); (case k4 => k_is); (case k5 => assumption); k_whole))))
theorem conv (w : World) (mean : ExcName → Option Value) (mg mb : Str → Option Value) (s : Shared) (x : Str) (t : Tok) (b : Bool) (self : Addr) (hs : scan (if b then codeN else codeV) x = true) :
    Tel 3 w mean mg mb 112 [.ref self, .str x t] [(Str.ofString "name", .bool b)] (fun r _ => r = .str x t) s := by
  unfold Tel
  intro dp un gd outs base Q E B X T hdp hu hret
  ktn_open
  intro g L' h₁ hg F' N' B' X' T'
  try dsimp only
  try k_fold
  cases b
  · have hs' : scan codeV x = true := hs
    unfold codeV at hs'
    repeat' (first | (dsimp only; walk1) | walk1)
    (refine hret _ _ _ ?_ rfl); intro b o e; exact Fr.keep (by assumption) _ _ (hg ▸ e)
  · have hs' : scan codeN x = true := hs
    unfold codeN at hs'
    repeat' (first | (dsimp only; walk1) | walk1)
    (refine hret _ _ _ ?_ rfl); intro b o e; exact Fr.keep (by assumption) _ _ (hg ▸ e)
end
def turnOf (p : Pos) (target : Expr) (it : Value) (env : Env) (ifs : List Expr) (work : Sem Fin → Sem Fin) (c : Code) : Sem Fin := do
  standAt p
  match ← pyNext it with
  | none => pure (.done .next)
  | some v =>
    letOwnedTupleGo target it v
    assign target env v
    let mut ok := true
    for c in ifs do
      if ok then ok ← isTrue c env (eval c env)
    if ok then
      work (again c)
    else
      again c
def testsOf (ifs : List Expr) (env : Env) : Sem Bool := forIn ifs true fun c r => if r = true then do let ok ← isTrue c env (eval c env); pure (ForInStep.yield ok) else pure (ForInStep.yield r)
theorem turn1 (elt target iter : Expr) (ifs : List Expr) (scope : Scope) (pos : Pos) (it acc : Value) (env : Env) :
    compTurn (.ListComp elt [⟨target, iter, ifs, 0⟩] scope pos) 0 it acc env = turnOf iter.pos target it env ifs (fun k => (do let _ ← call (.builtin "list.append") [acc, ← eval elt env]) >>= fun _ => k) (.compLoop (.ListComp elt [⟨target, iter, ifs, 0⟩] scope pos) 0 it acc env) := by rfl
theorem turn2a (elt t1 i1 t2 i2 : Expr) (scope : Scope) (pos : Pos) (it acc : Value) (env : Env) :
    compTurn (.ListComp elt [⟨t1, i1, [], 0⟩, ⟨t2, i2, [], 0⟩] scope pos) 0 it acc env = turnOf i1.pos t1 it env [] (fun k => do
      let x ← eval i2 env
      standAt i2.pos
      let x ← foldedSetIterable i2 env x
      let _ ← runOwn (.compStart (.ListComp elt [⟨t1, i1, [], 0⟩, ⟨t2, i2, [], 0⟩] scope pos) 1 (← holding [x] (pyIter x)) acc env) env
      k) (.compLoop (.ListComp elt [⟨t1, i1, [], 0⟩, ⟨t2, i2, [], 0⟩] scope pos) 0 it acc env) := by rfl
theorem turn2b (elt t1 i1 t2 i2 : Expr) (scope : Scope) (pos : Pos) (it acc : Value) (env : Env) :
    compTurn (.ListComp elt [⟨t1, i1, [], 0⟩, ⟨t2, i2, [], 0⟩] scope pos) 1 it acc env = turnOf i2.pos t2 it env [] (fun k => (do let _ ← call (.builtin "list.append") [acc, ← eval elt env]) >>= fun _ => k) (.compLoop (.ListComp elt [⟨t1, i1, [], 0⟩, ⟨t2, i2, [], 0⟩] scope pos) 1 it acc env) := by rfl
section
variable {prog : Program} {w : World} {A : Around} {R : Result → Shared → Prop}
abbrev Ef : Value → Shared → Prop := fun _ _ => False
theorem loopG {e : Expr} {d : Nat} {it acc : Value} {env : Env} {target : Expr} {p : Pos} {ifs : List Expr} {work : Sem Fin → Sem Fin} (hq : (Code.compLoop e d it acc env).isFrame = false) (hu : A.under (.compLoop e d it acc env) = A) (hqu : (Code.compLoop e d it acc env).quiet = true)
    (ht : compTurn e d it acc env = turnOf p target it env ifs work (.compLoop e d it acc env)) (n : Nat) (Inv : Nat → Shared → Prop)
    (draw : ∀ i s, i < n → Inv i s → wpAny (model prog w) A (pyNext it) (fun r s₁ => ∃ v, r = some v ∧ wpAny (model prog w) A (letOwnedTupleGo target it v) (fun _ s₂ => wpAny (model prog w) A (assign target env v) (fun _ s₃ =>
      wpAny (model prog w) A (testsOf ifs env) (fun ok s₄ => (ok = true → ∀ k Q E, (∀ s₅, Inv (i + 1) s₅ → wpAny (model prog w) A k Q E s₅) → wpAny (model prog w) A (work k) Q E s₄) ∧ (ok = false → Inv (i + 1) s₄)) Ef s₃) Ef s₂) Ef s₁) Ef s)
    (done : ∀ s, Inv n s → wpAny (model prog w) A (pyNext it) (fun r s₁ => r = none ∧ R (.ok .next) s₁) Ef s) (i : Nat) (s : Shared) (hi : i ≤ n) (h : Inv i s) :
    codeAny (model prog w) A (.compLoop e d it acc env) R s := by
  refine codeAny_loop hqu (fun k s => ∃ i, i ≤ n ∧ k = n - i ∧ Inv i s) (fun k s hI => ?_) (n - i) ⟨i, hi, rfl, h⟩
  obtain ⟨i, hi, rfl, hI⟩ := hI
  rw [hu]
  show wpAny _ A (if (Code.compLoop e d it acc env).isFrame = true then (compTurn e d it acc env).onRaise (leaving env) else (compTurn e d it acc env).onRaise (fun x => do noteFrame x env; theTreesLotGoes x)) _ _ s
  rw [hq, if_neg Bool.false_ne_true]
  refine wpAny_noted ?_
  rw [ht]
  unfold turnOf
  refine wpAny_bind (wpAny_standAt (wpAny_bind ?_))
  by_cases hlt : i < n
  · refine wpAny_mono (draw i s hlt hI) (fun r s₁ h₁ => ?_) fun _ _ x => x.elim
    obtain ⟨v, rfl, h₁⟩ := h₁
    refine wpAny_bind (wpAny_mono h₁ (fun _ s₂ h₂ => ?_) fun _ _ x => x.elim)
    refine wpAny_bind (wpAny_mono h₂ (fun _ s₃ h₃ => ?_) fun _ _ x => x.elim)
    refine wpAny_bind (wpAny_mono h₃ (fun ok s₄ h₄ => ?_) fun _ _ x => x.elim)
    cases ok with
    | false => exact wpAny_pure ⟨rfl, n - (i + 1), by omega, i + 1, hlt, rfl, h₄.2 rfl⟩
    | true => exact h₄.1 rfl _ _ _ fun s₅ h₅ => wpAny_pure ⟨rfl, n - (i + 1), by omega, i + 1, hlt, rfl, h₅⟩
  · obtain rfl : i = n := by omega
    refine wpAny_mono (done s hI) (fun r s₁ h₁ => ?_) fun _ _ x => x.elim
    obtain ⟨rfl, h₁⟩ := h₁
    exact wpAny_pure h₁
end
abbrev lstO (ys : List Value) (n : Nat) : Obj := { cls := .type "list", data := .seq ys.toArray n }
/-- old heap kept but for wr -/
def KpB (wr : List Addr) (h h' : Heap) : Prop := ∀ b o, b ∉ wr → h.get? b = some o → h'.get? b = some o
theorem KpB.trans {wr : List Addr} {h h' h'' : Heap} (a : KpB wr h h') (b : KpB wr h' h'') : KpB wr h h'' := fun c o n e => b c o n (a c o n e)
section
variable {prog : Program} {w : World} {A : Around} {R : Result → Shared → Prop}
/-- one clause's source: how an item is drawn and bound -/
structure Drw (prog : Program) (w : World) (A : Around) (target : Expr) (env : Env) (C : Addr) (it : Value) (wr fp : List Addr) (n : Nat) (St : Nat → Heap → Prop) (Bnd : Nat → (Str → Option Value) → Heap → Prop) (J : (Str → Option Value) → Prop) : Prop where
  sub : ∀ b ∈ wr, b ∈ fp
  off : C ∉ fp
  frame : ∀ i h h', St i h → (∀ b ∈ fp, ∀ o, h.get? b = some o → h'.get? b = some o) → St i h'
  live : ∀ i h, St i h → ∀ b ∈ wr, ∃ o, h.get? b = some o
  draw : ∀ i s m, i < n → St i s.heap → s.heap.Ns C m → J m → wpAny (model prog w) A (pyNext it) (fun r s₁ => ∃ v, r = some v ∧ wpAny (model prog w) A (letOwnedTupleGo target it v) (fun _ s₂ =>
    wpAny (model prog w) A (assign target env v) (fun _ s₃ => ∃ h' tk' m', s₃ = { s with heap := h', toks := tk' } ∧ Bnd i m' h' ∧ J m' ∧ h'.Ns C m' ∧ St (i + 1) h' ∧ KpB (C :: wr) s.heap h') Ef s₂) Ef s₁) Ef s
  done : ∀ s, St n s.heap → wpAny (model prog w) A (pyNext it) (fun r s₁ => r = none ∧ ∃ h' tk', s₁ = { s with heap := h', toks := tk' } ∧ KpB wr s.heap h') Ef s

/-- what an element does: by the frame C over the base -/
def EltEnd (base : Heap) (C : Addr) (s : Shared) (m : Str → Option Value) (news : Led) (Φ Φ' : List Value → Led → Prop) (y : Value) (s' : Shared) : Prop :=
  ∃ h' tk' objs', s' = { s with heap := h', toks := tk' } ∧ Fr base C h' m ∧ News base C h' (objs' ++ news) ∧ (∀ p ∈ objs', ∀ q ∈ news, p.1 ≠ q.1) ∧ ∀ ys objs, Φ ys objs → Φ' (ys ++ [y]) (objs' ++ objs)
def EltOk (prog : Program) (w : World) (A : Around) (base : Heap) (C : Addr) (t : Sem Value) (Bnd : (Str → Option Value) → Heap → Prop) (Φ Φ' : List Value → Led → Prop) : Prop :=
  ∀ s m (news : Led) E, Fr base C s.heap m → News base C s.heap news → Bnd m s.heap → wpAny (model prog w) A t (EltEnd base C s m news Φ Φ') E s
def TestEnd (base : Heap) (C : Addr) (s : Shared) (m : Str → Option Value) (news : Led) (Bnd : (Str → Option Value) → Heap → Prop) (b : Bool) (r : Bool) (s' : Shared) : Prop :=
  r = b ∧ ∃ h' tk', s' = { s with heap := h', toks := tk' } ∧ Fr base C h' m ∧ News base C h' news ∧ Bnd m h'
def TestOk (prog : Program) (w : World) (A : Around) (base : Heap) (C : Addr) (t : Sem Bool) (Bnd : (Str → Option Value) → Heap → Prop) (b : Bool) : Prop :=
  ∀ s m (news : Led) E, Fr base C s.heap m → News base C s.heap news → Bnd m s.heap → wpAny (model prog w) A t (TestEnd base C s m news Bnd b) E s
theorem testOk_nil {base : Heap} {C : Addr} {env : Env} {Bnd : (Str → Option Value) → Heap → Prop} : TestOk prog w A base C (testsOf [] env) Bnd true :=
  fun s m _ _ F N b => wpAny_tests_nil ⟨rfl, s.heap, s.toks, rfl, F, N, b⟩
theorem testOk_one {base : Heap} {C : Addr} {env : Env} {c : Expr} {Bnd : (Str → Option Value) → Heap → Prop} {b : Bool} (h : TestOk prog w A base C (isTrue c env (eval c env)) Bnd b) : TestOk prog w A base C (testsOf [c] env) Bnd b :=
  fun s m news E F N q => wpAny_tests_one (h s m news E F N q)

/-- the state between the turns of one clause -/
def Mid (xt : Led) (base : Heap) (C D : Addr) (wr : List Addr) (St : Nat → Heap → Prop) (Φ : Nat → List Value → Led → Prop) (J : (Str → Option Value) → Prop) (s₀ : Shared) (i : Nat) (s : Shared) : Prop :=
  ∃ (h : Heap) (tk : Nat) (m : Str → Option Value) (ys : List Value) (objs wn : Led), s = { s₀ with heap := h, toks := tk } ∧ St i h ∧ Fr base C h m ∧ News base C h ((D, lstO ys ys.length) :: (objs ++ (wn ++ xt))) ∧ wn.map (·.1) = wr ∧ (∀ p ∈ objs, p.1 ≠ D ∧ p.1 ∉ wr ∧ ∀ q ∈ xt, p.1 ≠ q.1) ∧ D ∉ wr ∧ Φ i ys objs ∧ J m

/-- the state behind the last turn -/
def Fini (xt : Led) (base : Heap) (C D : Addr) (wr : List Addr) (Φ : List Value → Led → Prop) (J : (Str → Option Value) → Prop) (s₀ : Shared) (s : Shared) : Prop :=
  ∃ (h : Heap) (tk : Nat) (m : Str → Option Value) (ys : List Value) (objs : Led), s = { s₀ with heap := h, toks := tk } ∧ Fr base C h m ∧ News base C h ((D, lstO ys ys.length) :: (objs ++ xt)) ∧ (∀ p ∈ objs, p.1 ≠ D ∧ p.1 ∉ wr ∧ ∀ q ∈ xt, p.1 ≠ q.1) ∧ D ∉ wr ∧ Φ ys objs ∧ J m

theorem loop1 {xt : Led} {e elt : Expr} {d : Nat} {it : Value} {D C : Addr} {env : Env} {target : Expr} {p : Pos} {ifs : List Expr} {base : Heap} {wr fp : List Addr} {n : Nat} {St : Nat → Heap → Prop} {Bnd : Nat → (Str → Option Value) → Heap → Prop} {Φ : Nat → List Value → Led → Prop} {J : (Str → Option Value) → Prop} {tst : Nat → Bool} {s₀ : Shared}
    (hq : (Code.compLoop e d it (.ref D) env).isFrame = false) (hu : A.under (.compLoop e d it (.ref D) env) = A) (hqu : (Code.compLoop e d it (.ref D) env).quiet = true)
    (ht : compTurn e d it (.ref D) env = turnOf p target it env ifs (fun k => (do let _ ← call (.builtin "list.append") [.ref D, ← eval elt env]) >>= fun _ => k) (.compLoop e d it (.ref D) env))
    (W : Drw prog w A target env C it wr fp n St Bnd J) (old : ∀ b ∈ fp, b ∉ wr → ∃ o, base.get? b = some o)
    (hlen : ∀ i ys objs, Φ i ys objs → ys.length < sizeLine)
    (test : ∀ i, i < n → TestOk prog w A base C (testsOf ifs env) (Bnd i) (tst i)) (el : ∀ i, i < n → tst i = true → EltOk prog w A base C (eval elt env) (Bnd i) (Φ i) (Φ (i + 1)))
    (skip : ∀ i ys objs, i < n → tst i = false → Φ i ys objs → Φ (i + 1) ys objs)
    (hxt : ∀ q ∈ xt, q.1 ∉ wr ∧ q.1 ≠ D)
    (done : ∀ s, Fini xt base C D wr (Φ n) J s₀ s → R (.ok .next) s) (i : Nat) (s : Shared) (hi : i ≤ n) (h : Mid xt base C D wr St Φ J s₀ i s) :
    codeAny (model prog w) A (.compLoop e d it (.ref D) env) R s := by
  refine loopG hq hu hqu ht n (Mid xt base C D wr St Φ J s₀) (fun i s hi hM => ?_) (fun s hM => ?_) i s hi h
  · obtain ⟨h, tk, m, ys, objs, wn, rfl, hst, F, N, hwn, hob, hDw, hΦ, hJ⟩ := hM
    refine wpAny_mono (W.draw i _ m hi hst F.ns hJ) (fun r s₁ h₁ => ?_) fun _ _ x => x
    obtain ⟨v, rfl, h₁⟩ := h₁
    refine ⟨v, rfl, wpAny_mono h₁ (fun _ s₂ h₂ => wpAny_mono h₂ (fun _ s₃ h₃ => ?_) fun _ _ x => x) fun _ _ x => x⟩
    obtain ⟨h', tk', m', rfl, hb, hJ', hn', hst', hk⟩ := h₃
    have hbase : ∀ b o, base.get? b = some o → b ∉ wr := fun b o e hm => by
      rw [← hwn] at hm
      obtain ⟨q, hq, rfl⟩ := List.mem_map.mp hm
      rw [(N q (List.mem_cons_of_mem _ (List.mem_append.mpr (.inr (List.mem_append.mpr (.inl hq)))))).2.2] at e
      cases e
    have hC0 : base.get? C = none := Heap.get?_none_of_le F.above
    have F' : Fr base C h' m' := ⟨hn', fun b o e => hk b o (by
      intro hm
      rcases List.mem_cons.mp hm with rfl | hm
      · rw [hC0] at e; cases e
      · exact hbase b o e hm) (F.keep b o e), F.above⟩
    -- the drawn-upon objects anew
    obtain ⟨wn', hwn', hwl⟩ : ∃ wn' : Led, wn'.map (·.1) = wr ∧ ∀ q ∈ wn', h'.get? q.1 = some q.2 := by
      have : ∀ l : List Addr, (∀ b ∈ l, ∃ o, h'.get? b = some o) → ∃ wn' : Led, wn'.map (·.1) = l ∧ ∀ q ∈ wn', h'.get? q.1 = some q.2 := by
        intro l
        induction l with
        | nil => exact fun _ => ⟨[], rfl, fun _ hq => nomatch hq⟩
        | cons b l ih =>
          intro hl
          obtain ⟨o, ho⟩ := hl b (.head _)
          obtain ⟨wn', e, hq⟩ := ih fun c hc => hl c (.tail _ hc)
          refine ⟨(b, o) :: wn', by rw [List.map_cons, e], fun q hm => ?_⟩
          rcases List.mem_cons.mp hm with rfl | hm
          · exact ho
          · exact hq q hm
      exact this wr fun b hb => W.live _ _ hst' b hb
    have N' : News base C h' ((D, lstO ys ys.length) :: (objs ++ (wn' ++ xt))) := fun q hq => by
      have put : ∀ q : Addr × Obj, q ∈ (D, lstO ys ys.length) :: (objs ++ (wn ++ xt)) → q.1 ∉ wr → h'.get? q.1 = some q.2 ∧ q.1 ≠ C ∧ base.get? q.1 = none := fun q hq hw =>
        ⟨hk _ _ (fun hm => (List.mem_cons.mp hm).elim (N q hq).2.1 hw) (N q hq).1, (N q hq).2⟩
      rcases List.mem_cons.mp hq with rfl | hq
      · exact put _ (.head _) hDw
      · rcases List.mem_append.mp hq with hq | hq
        · exact put q (List.mem_cons_of_mem _ (List.mem_append.mpr (.inl hq))) (hob q hq).2.1
        rcases List.mem_append.mp hq with hq | hq
        · have hm : q.1 ∈ wn.map (·.1) := by rw [hwn, ← hwn']; exact List.mem_map_of_mem hq
          obtain ⟨q0, hq0, e⟩ := List.mem_map.mp hm
          have z := N q0 (List.mem_cons_of_mem _ (List.mem_append.mpr (.inr (List.mem_append.mpr (.inl hq0)))))
          exact ⟨hwl q hq, e ▸ z.2.1, e ▸ z.2.2⟩
        · exact put q (List.mem_cons_of_mem _ (List.mem_append.mpr (.inr (List.mem_append.mpr (.inr hq))))) (hxt q hq).1
    refine wpAny_mono (test i hi _ m' _ Ef F' N' hb) (fun ok s₄ h₄ => ?_) fun _ _ x => x
    obtain ⟨rfl, h₄, tk₄, rfl, F₄, N₄, hb₄⟩ := h₄
    have stk : ∀ (g : Heap) (mg : Str → Option Value) (nw : Led), Fr base C g mg → News base C g nw → (∀ q ∈ wn', q ∈ nw) → St (i + 1) g := fun g mg nw Fg Ng hs => W.frame _ _ _ hst' fun b hb o e => by
      by_cases hw : b ∈ wr
      · rw [← hwn'] at hw
        obtain ⟨q, hq, rfl⟩ := List.mem_map.mp hw
        rw [hwl q hq] at e
        cases e
        exact (Ng q (hs q hq)).1
      · obtain ⟨o', ho'⟩ := old b hb hw
        have := F'.keep _ _ ho'
        rw [e] at this
        cases this
        exact Fg.keep _ _ ho'
    refine ⟨fun hok k Q E hk' => ?_, fun hok => ?_⟩
    · refine wpAny_bind (wpAny_bind (wpAny_mono (el i hi hok _ m' _ E F₄ N₄ hb₄) (fun y s₅ h₅ => ?_) fun _ _ x => x))
      obtain ⟨h₅, tk₅, objs', rfl, F₅, N₅, hfr, hΦ'⟩ := h₅
      have hDm : (D, lstO ys ys.length) ∈ objs' ++ (D, lstO ys ys.length) :: (objs ++ (wn' ++ xt)) := List.mem_append.mpr (.inr (.head _))
      have zD := N₅ _ hDm
      refine wpAny_bind (append_at (hsz := by rw [List.size_toArray]; exact Nat.le_of_lt (hlen _ _ _ hΦ)) zD.1 fun h₆ hs₆ hD₆ => wpAny_pure (hk' _ ?_))
      have oth : ∀ q ∈ objs' ++ (objs ++ (wn' ++ xt)), q.1 ≠ D ∧ q ∈ objs' ++ (D, lstO ys ys.length) :: (objs ++ (wn' ++ xt)) := fun q hq => by
        rcases List.mem_append.mp hq with hq | hq
        · exact ⟨hfr q hq _ (.head _), List.mem_append.mpr (.inl hq)⟩
        · refine ⟨?_, List.mem_append.mpr (.inr (.tail _ hq))⟩
          rcases List.mem_append.mp hq with hq | hq
          · exact (hob q hq).1
          rcases List.mem_append.mp hq with hq | hq
          · intro e
            exact hDw (by rw [← e, ← hwn']; exact List.mem_map_of_mem hq)
          · exact (hxt q hq).2
      have N₆ : News base C h₆ ((D, lstO (ys ++ [y]) (ys ++ [y]).length) ::  ((objs' ++ objs) ++ (wn' ++ xt))) := fun q hq => by
        rcases List.mem_cons.mp hq with rfl | hq
        · refine ⟨hD₆.trans ?_, zD.2⟩
          show some ({ cls := .type "list", data := .seq (ys.toArray.push y) (ys.length + 1) } : Obj) = some { cls := .type "list", data := .seq (ys ++ [y]).toArray (ys ++ [y]).length }
          rw [List.length_append, List.length_singleton, List.push_toArray]
        · rw [List.append_assoc] at hq
          obtain ⟨hne, hm⟩ := oth q hq
          exact ⟨(hs₆.2 _ hne).trans (N₅ q hm).1, (N₅ q hm).2⟩
      have F₆ := F₅.change hs₆ zD.2.1 zD.2.2
      refine ⟨h₆, tk₅, m', ys ++ [y], objs' ++ objs, wn', rfl, stk _ _ _ F₆ N₆ fun q hq => .tail _ (List.mem_append.mpr (.inr (List.mem_append.mpr (.inl hq)))), F₆, N₆, hwn', fun q hq => ?_, hDw, hΦ' _ _ hΦ, hJ'⟩
      rcases List.mem_append.mp hq with hq | hq
      · refine ⟨hfr q hq _ (.head _), fun hm => ?_, fun r hr => hfr q hq r (.tail _ (List.mem_append.mpr (.inr (List.mem_append.mpr (.inr hr)))))⟩
        rw [← hwn'] at hm
        obtain ⟨r, hr, e⟩ := List.mem_map.mp hm
        exact hfr q hq r (.tail _ (List.mem_append.mpr (.inr (List.mem_append.mpr (.inl hr))))) e.symm
      · exact hob q hq
    · exact ⟨h₄, tk₄, m', ys, objs, wn', rfl, stk _ _ _ F₄ N₄ fun q hq => .tail _ (List.mem_append.mpr (.inr (List.mem_append.mpr (.inl hq)))), F₄, N₄, hwn', hob, hDw, skip i _ _ hi hok hΦ, hJ'⟩
  · obtain ⟨h, tk, m, ys, objs, wn, rfl, hst, F, N, hwn, hob, hDw, hΦ, hJ⟩ := hM
    refine wpAny_mono (W.done _ hst) (fun r s₁ h₁ => ?_) fun _ _ x => x
    obtain ⟨rfl, h', tk', rfl, hk⟩ := h₁
    have hC0 : base.get? C = none := Heap.get?_none_of_le F.above
    have hbase : ∀ b o, base.get? b = some o → b ∉ wr := fun b o e hm => by
      rw [← hwn] at hm
      obtain ⟨q, hq, rfl⟩ := List.mem_map.mp hm
      rw [(N q (List.mem_cons_of_mem _ (List.mem_append.mpr (.inr (List.mem_append.mpr (.inl hq)))))).2.2] at e
      cases e
    have hCw : C ∉ wr := fun hm => W.off (W.sub C hm)
    refine ⟨rfl, done _ ⟨h', tk', m, ys, objs, rfl, ⟨F.ns.at' fun o e => hk _ o hCw e, fun b o e => hk b o (hbase b o e) (F.keep b o e), F.above⟩, fun q hq => ?_, hob, hDw, hΦ, hJ⟩⟩
    rcases List.mem_cons.mp hq with rfl | hq
    · exact ⟨hk _ _ hDw (N _ (.head _)).1, (N _ (.head _)).2⟩
    rcases List.mem_append.mp hq with hq | hq
    · have hm : q ∈ (D, lstO ys ys.length) :: (objs ++ (wn ++ xt)) := .tail _ (List.mem_append.mpr (.inl hq))
      exact ⟨hk _ _ (hob q hq).2.1 (N q hm).1, (N q hm).2⟩
    · have hm : q ∈ (D, lstO ys ys.length) :: (objs ++ (wn ++ xt)) := .tail _ (List.mem_append.mpr (.inr (List.mem_append.mpr (.inr hq))))
      exact ⟨hk _ _ (hxt q hq).1 (N q hm).1, (N q hm).2⟩

theorem kpB_nil {h h' : Heap} (k : ∀ b o, h.get? b = some o → h'.get? b = some o) (wr : List Addr) : KpB wr h h' := fun b o _ e => k b o e
/-- a name, drawn by a walk of the library's -/
theorem Drw.ofWalks {x : Str} {px : Pos} {env : Env} {C I : Addr} {fp : List Addr} {n : Nat} {P : Nat → Value → Prop} {St : Nat → Heap → Prop} (W : Walks prog w A I fp [I] n P St) (live : ∀ i h, St i h → ∃ o, h.get? I = some o) (off : C ∉ fp)
    (hl : env.kindOf x = some .local) (hL : env.locals = C) (hp : (env.scope.kind == .class || (env.scope.kind == .module && env.locals != env.globals)) = false)
    {J : (Str → Option Value) → Prop} (hJ : ∀ m v, J m → J (fun y => if y = x then some v else m y)) :
    Drw prog w A (.Name x px) env C (.ref I) [I] fp n St (fun i m _ => ∃ v, P i v ∧ m x = some v) J where
  sub := W.sub
  off := off
  frame := W.frame
  live := fun i h st b hb => by rw [List.mem_singleton.mp hb]; exact live i h st
  draw := fun i s m hi st hn jm => by
    subst hL
    refine W.item i s _ _ hi st fun v h' tk hP st' hk => ⟨v, rfl, ?_⟩
    refine wpAny_of_eq (show letOwnedTupleGo (.Name x px) (.ref I) v = pure () from rfl) ?_
    have hLI : env.locals ∉ [I] := fun hm => off (W.sub _ hm)
    refine wpAny_assign_Name (wpAny_storeName_local hl (hn.at' fun o e => hk _ o hLI e) (fun h₂ hn₂ hs₂ => ?_) hp)
    refine ⟨h₂, tk + 1, _, rfl, ⟨v, hP, if_pos rfl⟩, hJ _ _ jm, hn₂, W.frame _ _ _ st' fun b hb o e => (hs₂.2 b fun q => off (q ▸ hb)).trans e, fun b o hb e => ?_⟩
    exact (hs₂.2 b fun q => hb (q ▸ .head _)).trans (hk b o (fun hm => hb (.tail _ hm)) e)
  done := fun s st => W.done s _ _ st fun h' tk hk => ⟨rfl, h', tk, rfl, hk⟩
theorem drw_list {x : Str} {px : Pos} {env : Env} {C I ax : Addr} {its : Array Value} (hh : A.handled = none) (hne : ax ≠ I) (offI : C ≠ I) (offA : C ≠ ax)
    (hl : env.kindOf x = some .local) (hL : env.locals = C) (hp : (env.scope.kind == .class || (env.scope.kind == .module && env.locals != env.globals)) = false) :
    Drw prog w A (.Name x px) env C (.ref I) [I] [I, ax] its.size (fun i h => h.IsListIter I ax i ∧ h.IsList ax its) (fun i m _ => ∃ v, its[i]? = some v ∧ m x = some v) (fun _ => True) :=
  Drw.ofWalks (Walks.list hh I ax hne its) (fun i h st => by obtain ⟨o, e, _⟩ := st.1; exact ⟨o, e⟩) (by
    intro hm
    rcases List.mem_cons.mp hm with q | hm
    · exact offI q
    · exact offA (List.mem_singleton.mp hm)) hl hL hp (fun _ _ _ => trivial)

theorem block1 {elt target iter : Expr} {ifs : List Expr} {scope : Scope} {cl : List (Str × Addr)} {pos : Pos} {env : Env} {E : Value → Shared → Prop} {s₂ : Shared} {it : Value} {wr fp : List Addr} {n : Nat} {St : Nat → Heap → Prop} {Bnd : Nat → (Str → Option Value) → Heap → Prop} {Φ : Nat → List Value → Led → Prop} {tst : Nat → Bool} {RR : Value → Addr → Result → Shared → Prop}
    (hcell : ∀ y ∈ scope.names, y.2 ≠ .cell) (hkind : scope.kind = .function)
    (hu : ∀ C, A.under (.compLoop (.ListComp elt [⟨target, iter, ifs, 0⟩] scope pos) 0 it (.ref s₂.heap.objs.size) (compEnvC scope cl C env)) = A)
    (hself : ∀ s Q E, St 0 s.heap → Q it s → wpAny (model prog w) A (pyIter it) Q E s)
    (W : ∀ C, C ∉ fp → Drw prog w A target (compEnvC scope cl C env) C it wr fp n St Bnd (fun _ => True)) (hst : St 0 s₂.heap) (old : ∀ b ∈ fp, ∃ o, s₂.heap.get? b = some o)
    (hlen : ∀ i ys objs, Φ i ys objs → ys.length < sizeLine)
    (test : ∀ i C, i < n → s₂.heap.objs.size ≤ C → TestOk prog w A (hideAll s₂.heap wr) C (testsOf ifs (compEnvC scope cl C env)) (Bnd i) (tst i))
    (el : ∀ i C, i < n → tst i = true → s₂.heap.objs.size ≤ C → EltOk prog w A (hideAll s₂.heap wr) C (eval elt (compEnvC scope cl C env)) (Bnd i) (Φ i) (Φ (i + 1)))
    (skip : ∀ i ys objs, i < n → tst i = false → Φ i ys objs → Φ (i + 1) ys objs) (start : Φ 0 [] [])
    (hRR : ∀ D C h' tk m' ys (objs : Led), s₂.heap.get? D = none → s₂.heap.get? C = none → D ≠ C → h'.Ns C m' → h'.get? D = some (lstO ys ys.length) → (∀ p ∈ objs, h'.get? p.1 = some p.2 ∧ s₂.heap.get? p.1 = none ∧ p.1 ≠ D ∧ p.1 ≠ C) → Φ n ys objs → KpB wr s₂.heap h' →
      RR (.ref D) C (.ok .next) { s₂ with heap := h', toks := tk }) :
    wpAny (model prog w) A (newList []) (fun acc s₃ => wpAny (model prog w) A (newFunctionEnv scope env.globals cl [] env.qual none .none (some env)) (fun cenv s₄ =>
      codeAny (model prog w) A (.compStart (.ListComp elt [⟨target, iter, ifs, 0⟩] scope pos) 0 it acc { cenv with scope := relabel scope env }) (RR acc cenv.locals) s₄) E s₃) E s₂ := by
  refine wpAny_newObj_type (wpAny_newFunctionEnv hcell (by intro y hy; simp at hy) (fun h₁ hns₁ hsb₁ => ?_) hkind)
  dsimp only at hns₁ hsb₁ ⊢
  generalize hH2 : s₂.heap.push { cls := .type "list", dict := none, data := .seq ([] : List Value).toArray } = H2 at hns₁ hsb₁ ⊢
  have hC : H2.objs.size = s₂.heap.objs.size + 1 := by rw [← hH2, Heap.size_push]
  have fresh : ∀ a, s₂.heap.objs.size ≤ a → s₂.heap.get? a = none := fun a ha => by
    cases e : s₂.heap.get? a with
    | none => rfl
    | some o' => exact absurd (Heap.lt_size e) (Nat.not_lt.mpr ha)
  have hDC : s₂.heap.objs.size ≠ H2.objs.size := by rw [hC]; exact Nat.ne_of_lt (Nat.lt_succ_self _)
  have hCle : s₂.heap.objs.size ≤ H2.objs.size := by rw [hC]; exact Nat.le_succ _
  have hfpl : ∀ b ∈ fp, b < s₂.heap.objs.size := fun b hb => by obtain ⟨o, e⟩ := old b hb; exact Heap.lt_size e
  have hCf : H2.objs.size ∉ fp := fun hm => by have := hfpl _ hm; rw [hC] at this; exact Nat.lt_irrefl _ (Nat.lt_of_succ_lt this)
  have W' := W _ hCf
  have hDw : s₂.heap.objs.size ∉ wr := fun hm => Nat.lt_irrefl _ (hfpl _ (W'.sub _ hm))
  have old₁ : ∀ b o, s₂.heap.get? b = some o → h₁.get? b = some o := fun b o e => hsb₁.extBut b o (fun q => by rw [q, fresh _ hCle] at e; cases e) (Heap.get?_push_of_some _ (hH2 ▸ Heap.get?_push_of_some _ e))
  have hacc : h₁.get? s₂.heap.objs.size = some (lstO [] 0) := hsb₁.extBut _ _ hDC (Heap.get?_push_of_some _ (hH2 ▸ Heap.get?_push_size _ rfl))
  have hst₁ : St 0 h₁ := W'.frame _ _ _ hst fun b _ o e => old₁ b o e
  have hb0 : ∀ a, s₂.heap.get? a = none → (hideAll s₂.heap wr).get? a = none := fun a e => by
    cases q : (hideAll s₂.heap wr).get? a with
    | none => rfl
    | some o => rw [of_hideAll _ q] at e; cases e
  obtain ⟨wn, hwn, hwl⟩ : ∃ wn : Led, wn.map (·.1) = wr ∧ ∀ q ∈ wn, h₁.get? q.1 = some q.2 := by
    have : ∀ l : List Addr, (∀ b ∈ l, ∃ o, h₁.get? b = some o) → ∃ wn' : Led, wn'.map (·.1) = l ∧ ∀ q ∈ wn', h₁.get? q.1 = some q.2 := by
      intro l
      induction l with
      | nil => exact fun _ => ⟨[], rfl, fun _ hq => nomatch hq⟩
      | cons b l ih =>
        intro hl
        obtain ⟨o, ho⟩ := hl b (.head _)
        obtain ⟨wn', e, hq⟩ := ih fun c hc => hl c (.tail _ hc)
        refine ⟨(b, o) :: wn', by rw [List.map_cons, e], fun q hm => ?_⟩
        rcases List.mem_cons.mp hm with rfl | hm
        · exact ho
        · exact hq q hm
    exact this wr fun b hb => W'.live _ _ hst₁ b hb
  have hCw : H2.objs.size ∉ wr := fun hm => hCf (W'.sub _ hm)
  have loop : ∀ s₃ : Shared, s₃ = { s₂ with heap := h₁, toks := s₂.toks + ([] : List (Str × Value)).length } →
      codeAny (model prog w) A (.compLoop (.ListComp elt [⟨target, iter, ifs, 0⟩] scope pos) 0 it (.ref s₂.heap.objs.size) (compEnvC scope cl H2.objs.size env))
        (RR (.ref s₂.heap.objs.size) H2.objs.size) s₃ := by
    rintro s₃ rfl
    refine loop1 (xt := []) (s₀ := s₂) (base := hideAll s₂.heap wr) rfl (hu _) rfl (turn1 _ _ _ _ _ _ _ _ _) W' (fun b hb hw => by obtain ⟨o, e⟩ := old b hb; exact ⟨o, hideAll_get _ e hw⟩) hlen (fun i hi => test i _ hi hCle) (fun i hi ht => el i _ hi ht hCle) skip (fun _ hq => nomatch hq)
      (fun s hF => ?_) 0 _ (Nat.zero_le _) ⟨h₁, _, _, [], [], wn, rfl, hst₁, ⟨hns₁, fun b o e => old₁ b o (of_hideAll _ e), by rw [hideAll_size]; exact hCle⟩, ?_, hwn, (fun _ hp => nomatch hp), hDw, start, trivial⟩
    · obtain ⟨h, tk, m, ys, objs, rfl, F, N, hob, _, hΦ, _⟩ := hF
      rw [List.append_nil] at N
      refine hRR _ _ h tk m ys objs (fresh _ (Nat.le_refl _)) (fresh _ hCle) hDC F.ns (N _ (.head _)).1 (fun p hp => ⟨(N p (.tail _ hp)).1, ?_, (hob p hp).1, (N p (.tail _ hp)).2.1⟩) hΦ fun b o hb e => F.keep b o (hideAll_get _ e hb)
      cases q : s₂.heap.get? p.1 with
      | none => rfl
      | some o => have := (N p (.tail _ hp)).2.2; rw [hideAll_get _ q (hob p hp).2.1] at this; cases this
    · rw [List.append_nil]
      intro q hq
      rcases List.mem_cons.mp hq with rfl | hq
      · exact ⟨hacc, hDC, hb0 _ (fresh _ (Nat.le_refl _))⟩
      · have hq' : q ∈ wn := by simpa using hq
        have hm : q.1 ∈ wr := by rw [← hwn]; exact List.mem_map_of_mem hq'
        exact ⟨hwl q hq', fun e => hCw (e ▸ hm), hideAll_none _ hm⟩
  exact codeAny_compStart_list (loop _ rfl) (hself _ _ _ hst₁ (loop _ rfl))
end
def KpW (Wr : Addr → Prop) (h h' : Heap) : Prop := ∀ b o, ¬ Wr b → h.get? b = some o → h'.get? b = some o
def none1 : Addr → Prop := fun _ => False
section
variable {prog : Program} {w : World} {A : Around}
def Src1 (prog : Program) (w : World) (A : Around) (target : Expr) (ev : Addr → Env) (xv : Value) (s₁ : Shared) (n : Nat) (Wr : Addr → Prop) (Bnd : Nat → (Str → Option Value) → Heap → Prop) : Prop :=
  ∀ (K : Value → Shared → Prop) (E : Value → Shared → Prop), (∀ it h₂ (wr fp : List Addr) (St : Nat → Heap → Prop), (∀ b o, s₁.heap.get? b = some o → h₂.get? b = some o) → (∀ b ∈ wr, Wr b ∨ s₁.heap.get? b = none) →
    (∀ C, C ∉ fp → Drw prog w A target (ev C) C it wr fp n St Bnd (fun _ => True)) → St 0 h₂ → (∀ b ∈ fp, ∃ o, h₂.get? b = some o) → (∀ s Q E, St 0 s.heap → Q it s → wpAny (model prog w) A (pyIter it) Q E s) → K it { s₁ with heap := h₂ }) → wpAny (model prog w) A (pyIter xv) K E s₁

theorem src_list {x : Str} {px : Pos} {ev : Addr → Env} {ax : Addr} {its : Array Value} {s₁ : Shared} (hh : A.handled = none) (hl : s₁.heap.IsList ax its)
    (hk : ∀ C, (ev C).kindOf x = some .local) (hL : ∀ C, (ev C).locals = C) (hp : ∀ C, ((ev C).scope.kind == .class || ((ev C).scope.kind == .module && (ev C).locals != (ev C).globals)) = false) :
    Src1 prog w A (.Name x px) ev (.ref ax) s₁ its.size none1 (fun i m _ => ∃ v, its[i]? = some v ∧ m x = some v) := by
  intro K E h
  have hlt : ax < s₁.heap.objs.size := by obtain ⟨_, e, _⟩ := hl; exact Heap.lt_size e
  have hn : s₁.heap.get? s₁.heap.objs.size = none := by
    cases e : s₁.heap.get? s₁.heap.objs.size with
    | none => rfl
    | some o' => exact absurd (Heap.lt_size e) (Nat.lt_irrefl _)
  have W := Walks.list (prog := prog) (w := w) hh s₁.heap.objs.size ax (Nat.ne_of_lt hlt) its
  refine wpAny_pyIter_list hl (h _ _ [s₁.heap.objs.size] [s₁.heap.objs.size, ax] _ (fun b o e => Heap.get?_push_of_some _ e) (fun b hb => .inr (by rw [List.mem_singleton.mp hb]; exact hn))
    (fun C hC => drw_list hh (Nat.ne_of_lt hlt) (fun q => hC (q ▸ .head _)) (fun q => hC (q ▸ .tail _ (.head _))) (hk C) (hL C) (hp C))
    ⟨⟨_, Heap.get?_push_size _ rfl, rfl, rfl⟩, hl.push _⟩ (fun b hb => ?_) (fun s Q E st hq => W.self 0 s Q E st hq))
  rcases List.mem_cons.mp hb with rfl | hb
  · exact ⟨_, Heap.get?_push_size _ rfl⟩
  · obtain ⟨o, e, _⟩ := hl
    rw [List.mem_singleton.mp hb]
    exact ⟨o, Heap.get?_push_of_some _ e⟩
theorem src_range {x : Str} {px : Pos} {ev : Addr → Env} {r : Addr} {b : Int} {t u v : Tok} {n : Nat} {s₁ : Shared} (hh : A.handled = none) (hr : IsRange s₁.heap r 0 b 1 t u v) (hsm : Builtin.Range.small 0 b 1 = true) (hn : Builtin.Range.rangeSize 0 b 1 = ((n : Nat) : Int))
    (hk : ∀ C, (ev C).kindOf x = some .local) (hL : ∀ C, (ev C).locals = C) (hp : ∀ C, ((ev C).scope.kind == .class || ((ev C).scope.kind == .module && (ev C).locals != (ev C).globals)) = false) :
    Src1 prog w A (.Name x px) ev (.ref r) s₁ n none1 (fun i m _ => ∃ t, m x = some (.int i t)) := by
  intro K E h
  have hno : s₁.heap.get? s₁.heap.objs.size = none := by
    cases e : s₁.heap.get? s₁.heap.objs.size with
    | none => rfl
    | some o' => exact absurd (Heap.lt_size e) (Nat.lt_irrefl _)
  have W := Walks.range (prog := prog) (w := w) hh s₁.heap.objs.size 0 1 n
  have W' : Walks prog w A s₁.heap.objs.size [s₁.heap.objs.size] [s₁.heap.objs.size] n (fun i v => ∃ t, v = .int i t) (fun i h => IsRangeIter h s₁.heap.objs.size (0 + (i : Nat) * 1) ((n : Int) - (i : Nat)) 1) :=
    { sub := W.sub, frame := W.frame, done := W.done, self := W.self, item := fun i s Q E hi st hQ => W.item i s Q E hi st fun v h' tk hP => hQ v h' tk (by obtain ⟨t, rfl⟩ := hP; exact ⟨t, by rw [Int.zero_add, Int.mul_one]⟩) }
  refine wpAny_pyIter_range hr hsm (h _ _ [s₁.heap.objs.size] [s₁.heap.objs.size] (fun i h => IsRangeIter h s₁.heap.objs.size (0 + (i : Nat) * 1) ((n : Int) - (i : Nat)) 1) (fun b o e => Heap.get?_push_of_some _ e) (fun b hb => .inr (by rw [List.mem_singleton.mp hb]; exact hno))
    (fun C hC => ?_) (by show IsRangeIter _ _ _ _ _; rw [hn]; simpa using Heap.get?_push_size _ rfl) (fun b hb => ?_) (fun s Q E st hq => W.self 0 s Q E st hq))
  · have D := Drw.ofWalks (x := x) (px := px) (env := ev C) W' (fun i h st => ⟨_, st⟩) hC (hk C) (hL C) (hp C) (J := fun _ => True) (fun _ _ _ => trivial)
    exact { sub := D.sub, off := D.off, frame := D.frame, live := D.live, done := D.done, draw := fun i s m hi st hn jm => wpAny_mono (D.draw i s m hi st hn jm) (fun r s₁ h₁ => by
      obtain ⟨v, rfl, h₁⟩ := h₁
      refine ⟨v, rfl, wpAny_mono h₁ (fun _ _ h₂ => wpAny_mono h₂ (fun _ s₃ h₃ => ?_) fun _ _ x => x) fun _ _ x => x⟩
      obtain ⟨h', tk', m', e, ⟨v, ⟨t, rfl⟩, hm⟩, r⟩ := h₃
      exact ⟨h', tk', m', e, ⟨t, hm⟩, r⟩) fun _ _ x => x }
  · rw [List.mem_singleton.mp hb]
    exact ⟨_, Heap.get?_push_size _ rfl⟩

/-- what stands behind the source: the elements' duties and the end's use -/
structure Duty (prog : Program) (w : World) (A : Around) (ifs : List Expr) (elt : Expr) (ev : Addr → Env) (s₁ : Shared) (n : Nat) (Wr : Addr → Prop) (Bnd : Nat → (Str → Option Value) → Heap → Prop) (Φ : Nat → List Value → Led → Prop) (tst : Nat → Bool) : Prop where
  len : ∀ i ys objs, Φ i ys objs → ys.length < sizeLine
  start : Φ 0 [] []
  skip : ∀ i ys objs, i < n → tst i = false → Φ i ys objs → Φ (i + 1) ys objs
  test : ∀ base C i, KpW Wr s₁.heap base → i < n → TestOk prog w A base C (testsOf ifs (ev C)) (Bnd i) (tst i)
  elt : ∀ base C i, KpW Wr s₁.heap base → i < n → tst i = true → EltOk prog w A base C (eval elt (ev C)) (Bnd i) (Φ i) (Φ (i + 1))

theorem listComp1 {elt target iter : Expr} {ifs : List Expr} {scope : Scope} {cl : List (Str × Addr)} {pos : Pos} {env : Env} {E : Value → Shared → Prop} {Q : Value → Shared → Prop} {s : Shared}
    (hclos : closureFor scope env = pure cl) (hcell : ∀ y ∈ scope.names, y.2 ≠ .cell) (hkind : scope.kind = .function)
    (hnames : ∀ y ∈ scope.names, y.2 = .local → scope.names.lookup y.1 = some .local)
    (h : wpAny (model prog w) A (eval iter env) (fun xv s₁ => ∃ n Wr Bnd Φ tst, Src1 prog w A target (fun C => compEnvC scope cl C env) xv s₁ n Wr Bnd ∧ Duty prog w A ifs elt (fun C => compEnvC scope cl C env) s₁ n Wr Bnd Φ tst ∧
      ∀ D h' tk ys (objs : Led), KpW Wr s₁.heap h' → s₁.heap.get? D = none → h'.get? D = some (lstO ys ys.length) → (∀ p ∈ objs, h'.get? p.1 = some p.2 ∧ s₁.heap.get? p.1 = none ∧ p.1 ≠ D) → Φ n ys objs → Q (.ref D) { s₁ with heap := h', toks := tk }) E s)
    (hs : ∀ x, foldedSetIterable iter env x = pure x := by intro _; rfl) :
    wpAny (model prog w) A (eval (.ListComp elt [⟨target, iter, ifs, 0⟩] scope pos) env) Q E s := by
  rw [eval_ListComp]
  refine wpAny_comprehension_free (use := none) rfl hs hclos hkind hnames (wpAny_mono h (fun xv s₁ h₁ => ?_) fun _ _ e => e)
  obtain ⟨n, Wr, Bnd, Φ, tst, S, D, hQ⟩ := h₁
  refine S _ _ fun it h₂ wr fp St hk hwr W hst old hself => ?_
  have hb : ∀ base, (∀ b o, b ∉ wr → h₂.get? b = some o → base.get? b = some o) → KpW Wr s₁.heap base := fun base kb b o hW e => kb b o (fun hm => (hwr b hm).elim hW fun q => by rw [q] at e; cases e) (hk b o e)
  refine block1 (RR := fun acc C => compPost (model prog w) A E none Q acc C) hcell hkind (fun _ => rfl) hself W hst old D.len (fun i C hi hC => D.test _ C i (hb _ fun b o hw e => hideAll_get _ e hw) hi)
    (fun i C hi ht hC => D.elt _ C i (hb _ fun b o hw e => hideAll_get _ e hw) hi ht) D.skip D.start ?_
  intro Da C h' tk m' ys objs hD hC hDC hn hD' hobj hΦ hkb
  refine ⟨m', hn, fun h'' hs'' => ?_⟩
  have n1 : ∀ a, h₂.get? a = none → s₁.heap.get? a = none := fun a e => by
    cases q : s₁.heap.get? a with
    | none => rfl
    | some o => rw [hk a o q] at e; cases e
  refine hQ Da h'' tk ys objs (fun b o hW e => ?_) (n1 _ hD) ((hs''.2 _ hDC).trans hD') (fun p hp => ?_) hΦ
  · have hne : b ≠ C := fun q => by rw [q, n1 _ hC] at e; cases e
    exact (hs''.2 b hne).trans (hkb b o (fun hm => (hwr b hm).elim hW fun q => by rw [q] at e; cases e) (hk b o e))
  · obtain ⟨z1, z2, z3, z4⟩ := hobj p hp
    exact ⟨(hs''.2 _ z4).trans z1, n1 _ z2, z3⟩
end
section
variable {prog : Program} {w : World} {A : Around} {R : Result → Shared → Prop}
theorem start2b {elt t1 i1 t2 i2 : Expr} {scope : Scope} {pos : Pos} {it acc : Value} {env : Env} {s : Shared}
    (h0 : codeAny (model prog w) A (.compLoop (.ListComp elt [⟨t1, i1, [], 0⟩, ⟨t2, i2, [], 0⟩] scope pos) 1 it acc env) R s)
    (h : ∀ E, wpAny (model prog w) A (pyIter it) (fun it' s' => codeAny (model prog w) A (.compLoop (.ListComp elt [⟨t1, i1, [], 0⟩, ⟨t2, i2, [], 0⟩] scope pos) 1 it' acc env) R s') E s) :
    codeAny (model prog w) A (.compStart (.ListComp elt [⟨t1, i1, [], 0⟩, ⟨t2, i2, [], 0⟩] scope pos) 1 it acc env) R s := by
  refine codeAny_of_tree ?_
  show wpAny _ _ ((compStart (.ListComp elt [⟨t1, i1, [], 0⟩, ⟨t2, i2, [], 0⟩] scope pos) 1 it acc env).onRaise (fun x => do noteFrame x env; standAt theWindowsPlace)) _ _ s
  refine wpAny_notedAt ?_
  unfold compStart
  show wpAny _ _ (ask >>= _) _ _ s
  refine wpAny_bind (wpAny_askSetting (wpAny_ite ?_))
  split
  · exact wpAny_bind (wpAny_pure (wpAny_pure (And.intro rfl h0)))
  · exact wpAny_bind (wpAny_rule (wpAny_bind (wpAny_standAt (wpAny_bind (wpAny_mono (h _) (fun it' s' h' => wpAny_pure (And.intro rfl h')) fun _ _ x => x)))))

/-- the inner clause's source -/
def It2End (base : Heap) (C : Addr) (s : Shared) (m : Str → Option Value) (news : Led) (n : Nat) (x : Value) (s' : Shared) : Prop :=
  ∃ h' tk' r b t u v, s' = { s with heap := h', toks := tk' } ∧ Fr base C h' m ∧ News base C h' news ∧ x = .ref r ∧ IsRange h' r 0 b 1 t u v ∧ Builtin.Range.small 0 b 1 = true ∧ Builtin.Range.rangeSize 0 b 1 = ((n : Nat) : Int)
def It2Ok (prog : Program) (w : World) (A : Around) (base : Heap) (C : Addr) (t : Sem Value) (Bnd : (Str → Option Value) → Heap → Prop) (n : Nat) : Prop :=
  ∀ s m (news : Led) E, Fr base C s.heap m → News base C s.heap news → Bnd m s.heap → wpAny (model prog w) A t (It2End base C s m news n) E s

theorem loop2 {elt i1 i2 : Expr} {x k : Str} {px pk : Pos} {scope : Scope} {pos : Pos} {I D C : Addr} {env : Env} {base : Heap} {fp : List Addr} {n : Nat} {its : Array Value} {St : Nat → Heap → Prop} {Φ : Nat → Nat → List Value → Led → Prop} {n2 : Nat → Nat} {s₀ : Shared}
    (hh : A.handled = none) (hxk : x ≠ k) (hk : env.kindOf k = some .local) (hL : env.locals = C) (hp : (env.scope.kind == .class || (env.scope.kind == .module && env.locals != env.globals)) = false)
    (W : Drw prog w A (.Name x px) env C (.ref I) [I] fp n St (fun i m _ => ∃ v, its[i]? = some v ∧ m x = some v) (fun _ => True)) (old : ∀ b ∈ fp, b ∉ [I] → ∃ o, base.get? b = some o)
    (hf2 : ∀ v, foldedSetIterable i2 env v = pure v) (hlen : ∀ i j ys objs, Φ i j ys objs → ys.length < sizeLine)
    (hi2 : ∀ i v, its[i]? = some v → It2Ok prog w A base C (eval i2 env) (fun m _ => m x = some v) (n2 i))
    (el : ∀ i j v, i < n → j < n2 i → its[i]? = some v → EltOk prog w A base C (eval elt env) (fun m _ => m x = some v ∧ ∃ t, m k = some (.int j t)) (Φ i j) (Φ i (j + 1)))
    (turn : ∀ i ys objs, i < n → Φ i (n2 i) ys objs → Φ (i + 1) 0 ys objs)
    (done : ∀ s, Fini [] base C D [I] (Φ n 0) (fun _ => True) s₀ s → R (.ok .next) s) (s : Shared) (h : Mid [] base C D [I] St (fun i => Φ i 0) (fun _ => True) s₀ 0 s) :
    codeAny (model prog w) A (.compLoop (.ListComp elt [⟨.Name x px, i1, [], 0⟩, ⟨.Name k pk, i2, [], 0⟩] scope pos) 0 (.ref I) (.ref D) env) R s := by
  refine loopG rfl rfl rfl (turn2a _ _ _ _ _ _ _ _ _ _) n (Mid [] base C D [I] St (fun i => Φ i 0) (fun _ => True) s₀) (fun i s hi hM => ?_) (fun s hM => ?_) 0 s (Nat.zero_le _) h
  · obtain ⟨h, tk, m, ys, objs, wn, rfl, hst, F, N, hwn, hob, hDw, hΦ, _⟩ := hM
    refine wpAny_mono (W.draw i _ m hi hst F.ns trivial) (fun r s₁ h₁ => ?_) fun _ _ x => x
    obtain ⟨v, rfl, h₁⟩ := h₁
    refine ⟨v, rfl, wpAny_mono h₁ (fun _ s₂ h₂ => wpAny_mono h₂ (fun _ s₃ h₃ => ?_) fun _ _ x => x) fun _ _ x => x⟩
    obtain ⟨h', tk', m', rfl, ⟨v', hv', hmx⟩, _, hn', hst', hkp⟩ := h₃
    rw [List.append_nil] at N
    have hbase : ∀ b o, base.get? b = some o → b ∉ [I] := fun b o e hm => by
      rw [← hwn] at hm
      obtain ⟨q, hq, rfl⟩ := List.mem_map.mp hm
      rw [(N q (List.mem_cons_of_mem _ (List.mem_append.mpr (.inr hq)))).2.2] at e
      cases e
    have hC0 : base.get? C = none := Heap.get?_none_of_le F.above
    have F' : Fr base C h' m' := ⟨hn', fun b o e => hkp b o (by
      intro hm
      rcases List.mem_cons.mp hm with rfl | hm
      · rw [hC0] at e; cases e
      · exact hbase b o e hm) (F.keep b o e), F.above⟩
    obtain ⟨oI, hoI⟩ := W.live _ _ hst' I (.head _)
    have hIn : I ≠ C ∧ base.get? I = none := by
      have hm : I ∈ wn.map (·.1) := by rw [hwn]; exact .head _
      obtain ⟨q0, hq0, e⟩ := List.mem_map.mp hm
      have z := N q0 (List.mem_cons_of_mem _ (List.mem_append.mpr (.inr hq0)))
      exact ⟨e ▸ z.2.1, e ▸ z.2.2⟩
    have N' : News base C h' ((D, lstO ys ys.length) :: (objs ++ [(I, oI)])) := fun q hq => by
      have put : ∀ q : Addr × Obj, q ∈ (D, lstO ys ys.length) :: (objs ++ wn) → q.1 ∉ [I] → h'.get? q.1 = some q.2 ∧ q.1 ≠ C ∧ base.get? q.1 = none := fun q hq hw =>
        ⟨hkp _ _ (fun hm => (List.mem_cons.mp hm).elim (N q hq).2.1 hw) (N q hq).1, (N q hq).2⟩
      rcases List.mem_cons.mp hq with rfl | hq
      · exact put _ (.head _) hDw
      · rcases List.mem_append.mp hq with hq | hq
        · exact put q (List.mem_cons_of_mem _ (List.mem_append.mpr (.inl hq))) (hob q hq).2.1
        · rw [List.mem_singleton.mp hq]
          exact ⟨hoI, hIn⟩
    refine wpAny_tests_nil ⟨fun _ kk Q E hk' => ?_, fun h => nomatch h⟩
    refine wpAny_bind (wpAny_mono (hi2 i v' hv' _ m' _ E F' N' hmx) (fun xv s₅ h₅ => ?_) fun _ _ x => x)
    obtain ⟨h₅, tk₅, r, b, t, u, v₀, rfl, F₅, N₅, rfl, hr, hsm, hrn⟩ := h₅
    refine wpAny_bind (wpAny_standAt ?_)
    refine wpAny_bind (wpAny_of_eq (hf2 _) ?_)
    refine wpAny_bind (wpAny_holding (wpAny_pyIter_range hr hsm ?_))
    have hno : ∀ b o, base.get? b = some o → b ≠ h₅.objs.size := fun b o e q => by
      have := Heap.lt_size (F₅.keep b o e)
      rw [q] at this
      exact Nat.lt_irrefl _ this
    have F₆ := F₅.push { cls := .type "range_iterator", data := .fields #[rawInt 0, rawInt (Builtin.Range.rangeSize 0 b 1), rawInt 1] }
    have N₆ := News.push F₅ N₅ { cls := .type "range_iterator", data := .fields #[rawInt 0, rawInt (Builtin.Range.rangeSize 0 b 1), rawInt 1] }
    have Wr0 := Walks.range (prog := prog) (w := w) hh h₅.objs.size 0 1 (n2 i)
    have Wr1 : Walks prog w A h₅.objs.size [h₅.objs.size] [h₅.objs.size] (n2 i) (fun i v => ∃ t, v = .int i t) (fun i' h => IsRangeIter h h₅.objs.size (0 + (i' : Nat) * 1) (((n2 i : Nat) : Int) - (i' : Nat)) 1) :=
      { sub := Wr0.sub, frame := Wr0.frame, done := Wr0.done, self := Wr0.self, item := fun j s Q E hi st hQ => Wr0.item j s Q E hi st fun v h' tk hP => hQ v h' tk (by obtain ⟨t, rfl⟩ := hP; exact ⟨t, by rw [Int.zero_add, Int.mul_one]⟩) }
    have hCI : C ≠ h₅.objs.size := Nat.ne_of_lt F₅.ns.lt
    have Dr0 := Drw.ofWalks (x := k) (px := pk) (env := env) (C := C) Wr1 (fun i h st => ⟨_, st⟩) (fun hm => hCI (List.mem_singleton.mp hm)) hk hL hp (J := fun m => m x = some v') (fun m v hm => (if_neg hxk).trans hm)
    have Dr : Drw prog w A (.Name k pk) env C (.ref h₅.objs.size) [h₅.objs.size] [h₅.objs.size] (n2 i) (fun i' h => IsRangeIter h h₅.objs.size (0 + (i' : Nat) * 1) (((n2 i : Nat) : Int) - (i' : Nat)) 1) (fun j m _ => m x = some v' ∧ ∃ t, m k = some (.int j t)) (fun m => m x = some v') :=
      { sub := Dr0.sub, off := Dr0.off, frame := Dr0.frame, live := Dr0.live, done := Dr0.done, draw := fun i s m hi st hn jm => wpAny_mono (Dr0.draw i s m hi st hn jm) (fun r s₁ h₁ => by
          obtain ⟨v, rfl, h₁⟩ := h₁
          refine ⟨v, rfl, wpAny_mono h₁ (fun _ _ h₂ => wpAny_mono h₂ (fun _ s₃ h₃ => ?_) fun _ _ x => x) fun _ _ x => x⟩
          obtain ⟨h', tk', m', e, ⟨v, ⟨t, rfl⟩, hm⟩, hj, r⟩ := h₃
          exact ⟨h', tk', m', e, ⟨hj, t, hm⟩, hj, r⟩) fun _ _ x => x }
    have hDI : D ≠ h₅.objs.size := Nat.ne_of_lt (Heap.lt_size (N₅ _ (.head _)).1)
    have hII : I ≠ h₅.objs.size := Nat.ne_of_lt (Heap.lt_size (N₅ (I, oI) (.tail _ (List.mem_append.mpr (.inr (.head _))))).1)
    have hID : I ≠ D := fun q => hDw (by rw [← q]; exact .head _)
    refine wpAny_bind (m := runOwn _ env) ?_
    unfold runOwn
    have fin : ∀ s', Fini [(I, oI)] base C D [h₅.objs.size] (Φ i (n2 i)) (fun m => m x = some v') s₀ s' → wpAny (model prog w) A kk Q E s' := by
      rintro s' ⟨g, tkg, mg, ys', objs', rfl, Fg, Ng, hobg, _, hΦg, _⟩
      refine hk' _ ⟨g, tkg, mg, ys', objs', [(I, oI)], rfl, W.frame _ _ _ hst' fun b hb o e => ?_, Fg, by rw [List.append_nil]; exact Ng, rfl, fun p hp => ⟨(hobg p hp).1, fun hm => (hobg p hp).2.2 _ (.head _) (List.mem_singleton.mp hm), fun _ hq => nomatch hq⟩, hDw, turn i _ _ hi hΦg, trivial⟩
      by_cases hw : b = I
      · subst hw
        rw [hoI] at e
        cases e
        exact (Ng (b, oI) (.tail _ (List.mem_append.mpr (.inr (.head _))))).1
      · obtain ⟨o', ho'⟩ := old b hb (fun hm => hw (List.mem_singleton.mp hm))
        have := F'.keep _ _ ho'
        rw [e] at this
        cases this
        exact Fg.keep _ _ ho'
    have loop : codeAny (model prog w) A (.compLoop (.ListComp elt [⟨.Name x px, i1, [], 0⟩, ⟨.Name k pk, i2, [], 0⟩] scope pos) 1 (.ref h₅.objs.size) (.ref D) env)
        (fun r s' => match r with | .ok _ => wpAny (model prog w) A kk Q E s' | .error _ => False)
        { s₀ with heap := h₅.push { cls := .type "range_iterator", data := .fields #[rawInt 0, rawInt (Builtin.Range.rangeSize 0 b 1), rawInt 1] }, toks := tk₅ } := by
      refine loop1 (xt := [(I, oI)]) (s₀ := s₀) (base := base) (tst := fun _ => true) rfl rfl rfl (turn2b _ _ _ _ _ _ _ _ _ _) Dr (fun b hb hw => absurd hb hw) (hlen i) (fun j hj => testOk_nil) (fun j hj _ => el i j v' hi hj hv') (fun _ _ _ _ h => nomatch h)
        (fun q hq => by rw [List.mem_singleton.mp hq]; exact ⟨fun hm => hII (List.mem_singleton.mp hm), hID⟩) fin 0 _ (Nat.zero_le _)
        ⟨_, _, m', ys, objs, [(h₅.objs.size, { cls := .type "range_iterator", data := .fields #[rawInt 0, rawInt (Builtin.Range.rangeSize 0 b 1), rawInt 1] })], rfl, (by show IsRangeIter _ _ _ _ _; rw [hrn]; simpa using Heap.get?_push_size _ rfl), F₆, fun q hq => ?_, rfl, fun p hp => ⟨(hob p hp).1, fun hm => ?_, fun q hq => ?_⟩, fun hm => hDI (List.mem_singleton.mp hm), hΦ, hmx⟩
      · rcases List.mem_cons.mp hq with rfl | hq
        · exact N₆ _ (.tail _ (.head _))
        · rcases List.mem_append.mp hq with hq | hq
          · exact N₆ _ (.tail _ (.tail _ (List.mem_append.mpr (.inl hq))))
          · rcases List.mem_cons.mp hq with rfl | hq
            · exact N₆ _ (.head _)
            · exact N₆ _ (.tail _ (.tail _ (List.mem_append.mpr (.inr hq))))
      · have := Heap.lt_size (N₅ p (.tail _ (List.mem_append.mpr (.inl hp)))).1
        rw [List.mem_singleton.mp hm] at this
        exact Nat.lt_irrefl _ this
      · rw [List.mem_singleton.mp hq]
        exact fun e => (hob p hp).2.1 (by rw [e]; exact .head _)
    refine wpAny_onRaise (wpAny_run ?_)
    refine codeAny_mono (R := fun r s' => match r with | .ok _ => wpAny (model prog w) A kk Q E s' | .error _ => False) ?_ (fun r s' h => ?_)
    · exact start2b loop fun E' => Wr1.self 0 _ _ E' (by show IsRangeIter _ _ _ _ _; rw [hrn]; simpa using Heap.get?_push_size _ rfl) loop
    · cases r with
      | ok f => exact h
      | error e => exact h.elim
  · obtain ⟨h, tk, m, ys, objs, wn, rfl, hst, F, N, hwn, hob, hDw, hΦ, _⟩ := hM
    refine wpAny_mono (W.done _ hst) (fun r s₁ h₁ => ?_) fun _ _ x => x
    obtain ⟨rfl, h', tk', rfl, hk⟩ := h₁
    rw [List.append_nil] at N
    have hbase : ∀ b o, base.get? b = some o → b ∉ [I] := fun b o e hm => by
      rw [← hwn] at hm
      obtain ⟨q, hq, rfl⟩ := List.mem_map.mp hm
      rw [(N q (List.mem_cons_of_mem _ (List.mem_append.mpr (.inr hq)))).2.2] at e
      cases e
    have hCw : C ∉ [I] := fun hm => W.off (W.sub C hm)
    refine ⟨rfl, done _ ⟨h', tk', m, ys, objs, rfl, ⟨F.ns.at' fun o e => hk _ o hCw e, fun b o e => hk b o (hbase b o e) (F.keep b o e), F.above⟩, fun q hq => ?_, hob, hDw, hΦ, trivial⟩⟩
    rw [List.append_nil] at hq
    rcases List.mem_cons.mp hq with rfl | hq
    · exact ⟨hk _ _ hDw (N _ (.head _)).1, (N _ (.head _)).2⟩
    · have hm : q ∈ (D, lstO ys ys.length) :: (objs ++ wn) := .tail _ (List.mem_append.mpr (.inl hq))
      exact ⟨hk _ _ (hob q hq).2.1 (N q hm).1, (N q hm).2⟩

/-- an assignment of a one-clause comprehension to a name of the frame -/
theorem assign1 {elt target iter : Expr} {ifs : List Expr} {scope : Scope} {cl : List (Str × Addr)} {pos spos py : Pos} {y : Str} {env : Env} {E : Value → Shared → Prop} {Q : Flow → Shared → Prop} {s : Shared} {h₀ : Heap}
    (hsw : swapsWith (.ListComp elt [⟨target, iter, ifs, 0⟩] scope pos) (some (.Name y py)) spos.line env = pure true)
    (hclos : closureFor scope env = pure cl) (hcell : ∀ y ∈ scope.names, y.2 ≠ .cell) (hkind : scope.kind = .function)
    (hnames : ∀ y ∈ scope.names, y.2 = .local → scope.names.lookup y.1 = some .local)
    (hy : env.kindOf y = some .local) (hp : (env.scope.kind == .class || (env.scope.kind == .module && env.locals != env.globals)) = false)
    (h : wpAny (model prog w) A (eval iter env) (fun xv s₁ => ∃ n Bnd Φ tst m news, Src1 prog w A target (fun C => compEnvC scope cl C env) xv s₁ n none1 Bnd ∧ Duty prog w A ifs elt (fun C => compEnvC scope cl C env) s₁ n none1 Bnd Φ tst ∧
      Fr h₀ env.locals s₁.heap m ∧ News h₀ env.locals s₁.heap news ∧
      ∀ D h' tk ys (objs : Led), Fr h₀ env.locals h' (fun z => if z = y then some (.ref D) else m z) → News h₀ env.locals h' ((D, lstO ys ys.length) :: (objs ++ news)) → Φ n ys objs → Q .next { s₁ with heap := h', toks := tk }) E s)
    (hs : ∀ x, foldedSetIterable iter env x = pure x := by intro _; rfl) :
    wpAny (model prog w) A (exec (.Assign [.Name y py] (.ListComp elt [⟨target, iter, ifs, 0⟩] scope pos) spos) env) Q E s := by
  rw [exec_Assign_Name_used _ _ _ _ hsw]
  refine wpAny_bind (wpAny_standAt (wpAny_bind ?_))
  show wpAny _ A (do let _ ← comprehension (.ListComp elt [⟨target, iter, ifs, 0⟩] scope pos) scope env _ (newList []) false (eval iter env) (some (assign (.Name y py) env))) _ _ s
  refine wpAny_bind (wpAny_mono (wpAny_comprehension_free (use := some (assign (.Name y py) env)) (Q := fun _ s' => Q .next s') rfl hs hclos hkind hnames
    (wpAny_mono h (fun xv s₁ h₁ => ?_) fun _ _ e => e)) (fun _ s' hq => wpAny_pure (wpAny_pure hq)) fun _ _ e => e)
  obtain ⟨n, Bnd, Φ, tst, m, news, S, D, F, N, hQ⟩ := h₁
  refine S _ _ fun it h₂ wr fp St hk hwr W hst old hself => ?_
  have hb : ∀ base, (∀ b o, b ∉ wr → h₂.get? b = some o → base.get? b = some o) → KpW none1 s₁.heap base := fun base kb b o hW e => kb b o (fun hm => (hwr b hm).elim hW fun q => by rw [q] at e; cases e) (hk b o e)
  refine block1 (RR := fun acc C => compPost (model prog w) A E (some (assign (.Name y py) env)) (fun _ s' => Q .next s') acc C) hcell hkind (fun _ => rfl) hself W hst old D.len (fun i C hi hC => D.test _ C i (hb _ fun b o hw e => hideAll_get _ e hw) hi)
    (fun i C hi ht hC => D.elt _ C i (hb _ fun b o hw e => hideAll_get _ e hw) hi ht) D.skip D.start ?_
  intro Da C h' tk m' ys objs hD hC hDC hn hD' hobj hΦ hkb
  have n1 : ∀ a, h₂.get? a = none → s₁.heap.get? a = none := fun a e => by
    cases q : s₁.heap.get? a with
    | none => rfl
    | some o => rw [hk a o q] at e; cases e
  have kp : ∀ b o, s₁.heap.get? b = some o → h'.get? b = some o := fun b o e => hkb b o (fun hm => (hwr b hm).elim id fun q => by rw [q] at e; cases e) (hk b o e)
  have F' := F.grownK kp
  have N' := N.grown kp
  have nL : ∀ a, h₂.get? a = none → a ≠ env.locals := fun a e q => by
    obtain ⟨oL, _, _, hL, _⟩ := F.ns
    have := n1 a e
    rw [q, hL] at this
    cases this
  have n0 : ∀ a, h₂.get? a = none → h₀.get? a = none := fun a e => by
    cases q : h₀.get? a with
    | none => rfl
    | some o => have := n1 a e; rw [F.keep _ _ q] at this; cases this
  show wpAny _ A (assign (.Name y py) env (.ref Da)) _ _ _
  refine wpAny_assign_Name (wpAny_storeName_local hy F'.ns (fun h₃ hn₃ hs₃ => ?_) hp)
  refine ⟨m', hn.sameBut hs₃ (nL _ hC), fun h₄ hs₄ => ?_⟩
  have F₃ := F'.set hn₃ hs₃
  refine hQ Da h₄ _ ys objs (F₃.change hs₄ (nL _ hC) (n0 _ hC)) (fun q hq => ?_) hΦ
  rcases List.mem_cons.mp hq with rfl | hq
  · exact ⟨(hs₄.2 _ hDC).trans ((hs₃.2 _ (nL _ hD)).trans hD'), nL _ hD, n0 _ hD⟩
  · rcases List.mem_append.mp hq with hq | hq
    · obtain ⟨z1, z2, z3, z4⟩ := hobj q hq
      exact ⟨(hs₄.2 _ z4).trans ((hs₃.2 _ (nL _ z2)).trans z1), nL _ z2, n0 _ z2⟩
    · have z := N' q hq
      refine ⟨(hs₄.2 _ fun e => ?_).trans ((hs₃.2 _ z.2.1).trans z.1), z.2⟩
      have := (N q hq).1
      rw [e, n1 _ hC] at this
      cases this
end
section
variable {prog : Program} {w : World} {A : Around}
theorem env_at {env : Env} {scope : Scope} {cl : List (Str × Addr)} {C : Addr} (hkind : scope.kind = .function) : ((compEnvC scope cl C env).scope.kind == .class || ((compEnvC scope cl C env).scope.kind == .module && (compEnvC scope cl C env).locals != (compEnvC scope cl C env).globals)) = false := by
  simp [compEnvC, relabel, hkind]
/-- an assignment of a two-clause comprehension over a list of the call's own -/
theorem assign2 {elt i1 i2 : Expr} {x k y : Str} {px pk py : Pos} {scope : Scope} {cl : List (Str × Addr)} {pos spos : Pos} {env : Env} {E : Value → Shared → Prop} {Q : Flow → Shared → Prop} {s : Shared} {h₀ : Heap}
    (hh : A.handled = none) (hxk : x ≠ k) (hx : scope.names.lookup x = some .local) (hk : scope.names.lookup k = some .local)
    (hsw : swapsWith (.ListComp elt [⟨.Name x px, i1, [], 0⟩, ⟨.Name k pk, i2, [], 0⟩] scope pos) (some (.Name y py)) spos.line env = pure true)
    (hclos : closureFor scope env = pure cl) (hcell : ∀ y ∈ scope.names, y.2 ≠ .cell) (hkind : scope.kind = .function)
    (hnames : ∀ y ∈ scope.names, y.2 = .local → scope.names.lookup y.1 = some .local)
    (hy : env.kindOf y = some .local) (hp : (env.scope.kind == .class || (env.scope.kind == .module && env.locals != env.globals)) = false)
    (h : wpAny (model prog w) A (eval i1 env) (fun xv s₁ => ∃ (ax : Addr) (its : Array Value) (Φ : Nat → Nat → List Value → Led → Prop) (n2 : Nat → Nat) (m : Str → Option Value) (news : Led), xv = .ref ax ∧ s₁.heap.IsList ax its ∧
      (∀ i j ys objs, Φ i j ys objs → ys.length < sizeLine) ∧ Φ 0 0 [] [] ∧ (∀ i ys objs, i < its.size → Φ i (n2 i) ys objs → Φ (i + 1) 0 ys objs) ∧
      (∀ base C i v, KpW none1 s₁.heap base → its[i]? = some v → It2Ok prog w A base C (eval i2 (compEnvC scope cl C env)) (fun m _ => m x = some v) (n2 i)) ∧
      (∀ base C i j v, KpW none1 s₁.heap base → i < its.size → j < n2 i → its[i]? = some v → EltOk prog w A base C (eval elt (compEnvC scope cl C env)) (fun m _ => m x = some v ∧ ∃ t, m k = some (.int j t)) (Φ i j) (Φ i (j + 1))) ∧
      Fr h₀ env.locals s₁.heap m ∧ News h₀ env.locals s₁.heap news ∧
      ∀ D h' tk ys (objs : Led), Fr h₀ env.locals h' (fun z => if z = y then some (.ref D) else m z) → News h₀ env.locals h' ((D, lstO ys ys.length) :: (objs ++ news)) → Φ its.size 0 ys objs → Q .next { s₁ with heap := h', toks := tk }) E s)
    (hs : ∀ x, foldedSetIterable i1 env x = pure x := by intro _; rfl) (hs2 : ∀ env' x, foldedSetIterable i2 env' x = pure x := by intro _ _; rfl) :
    wpAny (model prog w) A (exec (.Assign [.Name y py] (.ListComp elt [⟨.Name x px, i1, [], 0⟩, ⟨.Name k pk, i2, [], 0⟩] scope pos) spos) env) Q E s := by
  rw [exec_Assign_Name_used _ _ _ _ hsw]
  refine wpAny_bind (wpAny_standAt (wpAny_bind ?_))
  show wpAny _ A (do let _ ← comprehension (.ListComp elt [⟨.Name x px, i1, [], 0⟩, ⟨.Name k pk, i2, [], 0⟩] scope pos) scope env _ (newList []) false (eval i1 env) (some (assign (.Name y py) env))) _ _ s
  refine wpAny_bind (wpAny_mono (wpAny_comprehension_free (use := some (assign (.Name y py) env)) (Q := fun _ s' => Q .next s') rfl hs hclos hkind hnames
    (wpAny_mono h (fun xv s₁ h₁ => ?_) fun _ _ e => e)) (fun _ s' hq => wpAny_pure (wpAny_pure hq)) fun _ _ e => e)
  obtain ⟨ax, its, Φ, n2, m, news, rfl, hl, hlen, start, turn, hi2, el, F, N, hQ⟩ := h₁
  refine wpAny_pyIter_list hl ?_
  generalize hI : s₁.heap.objs.size = I
  have hlt : ax < I := by obtain ⟨_, e, _⟩ := hl; rw [← hI]; exact Heap.lt_size e
  have fr1 : ∀ a, s₁.heap.objs.size ≤ a → s₁.heap.get? a = none := fun a ha => by
    cases e : s₁.heap.get? a with
    | none => rfl
    | some o' => exact absurd (Heap.lt_size e) (Nat.not_lt.mpr ha)
  have hk2 : ∀ b o, s₁.heap.get? b = some o → (s₁.heap.push { cls := .type "list_iterator", data := .fields #[.ref ax, .int 0 0] }).get? b = some o := fun b o e => Heap.get?_push_of_some _ e
  have hz2 : (s₁.heap.push { cls := .type "list_iterator", data := .fields #[.ref ax, .int 0 0] }).objs.size = I + 1 := by rw [Heap.size_push, hI]
  have hI2 : (s₁.heap.push { cls := .type "list_iterator", data := .fields #[.ref ax, .int 0 0] }).get? I = some { cls := .type "list_iterator", data := .fields #[.ref ax, .int 0 0] } := hI ▸ Heap.get?_push_size _ rfl
  have hl2 := hl.push { cls := .type "list_iterator", data := .fields #[.ref ax, .int 0 0] }
  generalize s₁.heap.push { cls := .type "list_iterator", data := .fields #[.ref ax, .int 0 0] } = h₂ at hk2 hz2 hI2 hl2 ⊢
  refine wpAny_newObj_type (wpAny_newFunctionEnv hcell (by intro y hy; simp at hy) (fun h₁ hns₁ hsb₁ => ?_) hkind)
  dsimp only at hns₁ hsb₁ ⊢
  generalize hH2 : h₂.push { cls := .type "list", dict := none, data := .seq ([] : List Value).toArray } = H2 at hns₁ hsb₁ ⊢
  have hC : H2.objs.size = h₂.objs.size + 1 := by rw [← hH2, Heap.size_push]
  have fresh : ∀ a, h₂.objs.size ≤ a → h₂.get? a = none := fun a ha => by
    cases e : h₂.get? a with
    | none => rfl
    | some o' => exact absurd (Heap.lt_size e) (Nat.not_lt.mpr ha)
  have hDC : h₂.objs.size ≠ H2.objs.size := by rw [hC]; exact Nat.ne_of_lt (Nat.lt_succ_self _)
  have hCle : h₂.objs.size ≤ H2.objs.size := by rw [hC]; exact Nat.le_succ _
  have hID : h₂.objs.size ∉ [I] := fun hm => by have := List.mem_singleton.mp hm; rw [hz2] at this; exact Nat.succ_ne_self _ this
  have hIC : H2.objs.size ≠ I := by rw [hC, hz2]; exact Nat.ne_of_gt (Nat.lt_succ_of_lt (Nat.lt_succ_self _))
  have hAC : H2.objs.size ≠ ax := by rw [hC, hz2]; exact Nat.ne_of_gt (Nat.lt_succ_of_lt (Nat.lt_succ_of_lt hlt))
  have old₁ : ∀ b o, h₂.get? b = some o → h₁.get? b = some o := fun b o e => hsb₁.extBut b o (fun q => by rw [q, fresh _ hCle] at e; cases e) (Heap.get?_push_of_some _ (hH2 ▸ Heap.get?_push_of_some _ e))
  have hacc : h₁.get? h₂.objs.size = some (lstO [] 0) := hsb₁.extBut _ _ hDC (Heap.get?_push_of_some _ (hH2 ▸ Heap.get?_push_size _ rfl))
  have hb0 : ∀ a, h₂.get? a = none → (hideAll h₂ [I]).get? a = none := fun a e => by
    cases q : (hideAll h₂ [I]).get? a with
    | none => rfl
    | some o => rw [of_hideAll _ q] at e; cases e
  have n1 : ∀ a, h₂.get? a = none → s₁.heap.get? a = none := fun a e => by
    cases q : s₁.heap.get? a with
    | none => rfl
    | some o => rw [hk2 a o q] at e; cases e
  have hkb : KpW none1 s₁.heap (hideAll h₂ [I]) := fun b o _ e => hideAll_get _ (hk2 b o e) (fun hm => by
    have := List.mem_singleton.mp hm
    rw [this, fr1 I (Nat.le_of_eq hI)] at e
    cases e)
  have W := drw_list (prog := prog) (w := w) (px := px) (env := compEnvC scope cl H2.objs.size env) (x := x) hh (Nat.ne_of_lt hlt) hIC hAC (lookup_relabel_local hx) rfl (env_at hkind) (its := its)
  have hst₁ : h₁.IsListIter I ax 0 ∧ h₁.IsList ax its := ⟨⟨_, old₁ _ _ hI2, rfl, rfl⟩, hl2.at fun o e => old₁ _ _ e⟩
  have loop : ∀ s₃ : Shared, s₃ = { s₁ with heap := h₁, toks := s₁.toks + ([] : List (Str × Value)).length } →
      codeAny (model prog w) A (.compLoop (.ListComp elt [⟨.Name x px, i1, [], 0⟩, ⟨.Name k pk, i2, [], 0⟩] scope pos) 0 (.ref I) (.ref h₂.objs.size) (compEnvC scope cl H2.objs.size env))
        (compPost (model prog w) A E (some (assign (.Name y py) env)) (fun _ s' => Q .next s') (.ref h₂.objs.size) H2.objs.size) s₃ := by
    rintro s₃ rfl
    refine loop2 (s₀ := s₁) (base := hideAll h₂ [I]) (C := H2.objs.size) (env := compEnvC scope cl H2.objs.size env) hh hxk (lookup_relabel_local hk) rfl (env_at hkind) W (fun b hb hw => ?_) (hs2 _) hlen (fun i v hv => hi2 _ _ i v hkb hv) (fun i j v hi hj hv => el _ _ i j v hkb hi hj hv) turn (fun s hF => ?_) _
      ⟨h₁, _, _, [], [], [(I, { cls := .type "list_iterator", data := .fields #[.ref ax, .int 0 0] })], rfl, hst₁, ⟨hns₁, fun b o e => old₁ b o (of_hideAll _ e), by rw [hideAll_size]; exact hCle⟩, ?_, rfl, (fun _ hp => nomatch hp), hID, start, trivial⟩
    · rcases List.mem_cons.mp hb with rfl | hb
      · exact absurd (.head _) hw
      · obtain ⟨o, e, _⟩ := hl2
        rw [List.mem_singleton.mp hb]
        exact ⟨o, hideAll_get _ e fun hm => Nat.ne_of_lt hlt (List.mem_singleton.mp hm)⟩
    · obtain ⟨h', tk, m', ys, objs, rfl, F', N', hob, _, hΦ, _⟩ := hF
      rw [List.append_nil] at N'
      have kp : ∀ b o, s₁.heap.get? b = some o → h'.get? b = some o := fun b o e => F'.keep _ _ (hkb b o id e)
      have FL := F.grownK kp
      have NL := N.grown kp
      have nL : ∀ a, h₂.get? a = none → a ≠ env.locals := fun a e q => by
        obtain ⟨oL, _, _, hL, _⟩ := F.ns
        have := n1 a e
        rw [q, hL] at this
        cases this
      have n0 : ∀ a, h₂.get? a = none → h₀.get? a = none := fun a e => by
        cases q : h₀.get? a with
        | none => rfl
        | some o => have := n1 a e; rw [F.keep _ _ q] at this; cases this
      have f2 : ∀ a, (hideAll h₂ [I]).get? a = none → a ∉ [I] → h₂.get? a = none := fun a e hn => by
        cases q : h₂.get? a with
        | none => rfl
        | some o => rw [hideAll_get _ q hn] at e; cases e
      show wpAny _ A (assign (.Name y py) env (.ref h₂.objs.size)) _ _ _
      have hD := fresh _ (Nat.le_refl h₂.objs.size)
      have hCn := fresh _ hCle
      refine wpAny_assign_Name (wpAny_storeName_local hy FL.ns (fun h₃ hn₃ hs₃ => ?_) hp)
      refine ⟨m', F'.ns.sameBut hs₃ (nL _ hCn), fun h₄ hs₄ => ?_⟩
      have F₃ := FL.set hn₃ hs₃
      refine hQ _ h₄ _ ys objs (F₃.change hs₄ (nL _ hCn) (n0 _ hCn)) (fun q hq => ?_) hΦ
      rcases List.mem_cons.mp hq with rfl | hq
      · exact ⟨(hs₄.2 _ hDC).trans ((hs₃.2 _ (nL _ hD)).trans (N' _ (.head _)).1), nL _ hD, n0 _ hD⟩
      · rcases List.mem_append.mp hq with hq | hq
        · have z := N' q (.tail _ hq)
          have z2 := f2 _ z.2.2 (hob q hq).2.1
          exact ⟨(hs₄.2 _ z.2.1).trans ((hs₃.2 _ (nL _ z2)).trans z.1), nL _ z2, n0 _ z2⟩
        · have z := NL q hq
          refine ⟨(hs₄.2 _ fun e => ?_).trans ((hs₃.2 _ z.2.1).trans z.1), z.2⟩
          have := (N q hq).1
          rw [e, n1 _ hCn] at this
          cases this
    · intro q hq
      rcases List.mem_cons.mp hq with rfl | hq
      · exact ⟨hacc, hDC, hb0 _ (fresh _ (Nat.le_refl _))⟩
      · have hq' : q = (I, { cls := .type "list_iterator", data := .fields #[.ref ax, .int 0 0] }) := by simpa using hq
        subst hq'
        exact ⟨old₁ _ _ hI2, fun e => hIC e.symm, hideAll_none _ (.head _)⟩
  exact codeAny_compStart_list (loop _ rfl) (wpAny_pyIter_listiter hst₁.1 (loop _ rfl))
end
section
variable {prog : Program} {w : World} {A : Around} {R : Result → Shared → Prop}
/-- what a comprehension made is new -/
def NewAt (s₁ : Shared) (D : Addr) (objs : Led) : Prop := s₁.heap.get? D = none ∧ ∀ p ∈ objs, s₁.heap.get? p.1 = none ∧ p.1 ≠ D
/-- behind a comprehension's last turn, by the frame's names and ledger -/
theorem comp_end {L : Addr} {E : Value → Shared → Prop} {Q : Value → Shared → Prop} {s₁ : Shared} {h₀ h₂ h' : Heap} {m m' : Str → Option Value} {news objs : Led} {D C : Addr} {ys : List Value} {Φ : List Value → Led → Prop} {tk : Nat}
    (F : Fr h₀ L s₁.heap m) (N : News h₀ L s₁.heap news)
    (kp : ∀ b o, s₁.heap.get? b = some o → h'.get? b = some o) (n1 : ∀ a, h₂.get? a = none → s₁.heap.get? a = none) (hD : h₂.get? D = none) (hC : h₂.get? C = none) (hDC : D ≠ C) (hn : h'.Ns C m') (hD' : h'.get? D = some (lstO ys ys.length))
    (hobj : ∀ p ∈ objs, h'.get? p.1 = some p.2 ∧ h₂.get? p.1 = none ∧ p.1 ≠ D ∧ p.1 ≠ C) (hΦ : Φ ys objs)
    (hQ : ∀ h' tk ys (objs : Led), Fr h₀ L h' m → News h₀ L h' ((D, lstO ys ys.length) :: (objs ++ news)) → NewAt s₁ D objs → Φ ys objs → Q (.ref D) { s₁ with heap := h', toks := tk }) :
    compPost (model prog w) A E none Q (.ref D) C (.ok .next) { s₁ with heap := h', toks := tk } := by
  have F' := F.grownK kp
  have N' := N.grown kp
  have nL : ∀ a, h₂.get? a = none → a ≠ L := fun a e q => by
    obtain ⟨oL, _, _, hL, _⟩ := F.ns
    have := n1 a e
    rw [q, hL] at this
    cases this
  have n0 : ∀ a, h₂.get? a = none → h₀.get? a = none := fun a e => by
    cases q : h₀.get? a with
    | none => rfl
    | some o => have := n1 a e; rw [F.keep _ _ q] at this; cases this
  refine ⟨m', hn, fun h₄ hs₄ => ?_⟩
  refine hQ h₄ _ ys objs (F'.change hs₄ (nL _ hC) (n0 _ hC)) (fun q hq => ?_) ⟨n1 _ hD, fun p hp => ⟨n1 _ (hobj p hp).2.1, (hobj p hp).2.2.1⟩⟩ hΦ
  rcases List.mem_cons.mp hq with rfl | hq
  · exact ⟨(hs₄.2 _ hDC).trans hD', nL _ hD, n0 _ hD⟩
  · rcases List.mem_append.mp hq with hq | hq
    · obtain ⟨z1, z2, z3, z4⟩ := hobj q hq
      exact ⟨(hs₄.2 _ z4).trans z1, nL _ z2, n0 _ z2⟩
    · have z := N' q hq
      refine ⟨(hs₄.2 _ fun e => ?_).trans z.1, z.2⟩
      have := (N q hq).1
      rw [e, n1 _ hC] at this
      cases this
/-- a one-clause comprehension as a value, by the frame's names and ledger -/
theorem listCompN {elt target iter : Expr} {ifs : List Expr} {scope : Scope} {cl : List (Str × Addr)} {pos : Pos} {env : Env} {E : Value → Shared → Prop} {Q : Value → Shared → Prop} {s : Shared} {h₀ : Heap} {L : Addr}
    (hclos : closureFor scope env = pure cl) (hcell : ∀ y ∈ scope.names, y.2 ≠ .cell) (hkind : scope.kind = .function)
    (hnames : ∀ y ∈ scope.names, y.2 = .local → scope.names.lookup y.1 = some .local)
    (h : wpAny (model prog w) A (eval iter env) (fun xv s₁ => ∃ n Bnd Φ tst m news, Src1 prog w A target (fun C => compEnvC scope cl C env) xv s₁ n none1 Bnd ∧ Duty prog w A ifs elt (fun C => compEnvC scope cl C env) s₁ n none1 Bnd Φ tst ∧
      Fr h₀ L s₁.heap m ∧ News h₀ L s₁.heap news ∧ ∀ D h' tk ys (objs : Led), Fr h₀ L h' m → News h₀ L h' ((D, lstO ys ys.length) :: (objs ++ news)) → NewAt s₁ D objs → Φ n ys objs → Q (.ref D) { s₁ with heap := h', toks := tk }) E s)
    (hs : ∀ x, foldedSetIterable iter env x = pure x := by intro _; rfl) :
    wpAny (model prog w) A (eval (.ListComp elt [⟨target, iter, ifs, 0⟩] scope pos) env) Q E s := by
  rw [eval_ListComp]
  refine wpAny_comprehension_free (use := none) rfl hs hclos hkind hnames (wpAny_mono h (fun xv s₁ h₁ => ?_) fun _ _ e => e)
  obtain ⟨n, Bnd, Φ, tst, m, news, S, D, F, N, hQ⟩ := h₁
  refine S _ _ fun it h₂ wr fp St hk2 hwr W hst old hself => ?_
  have hb : ∀ base, (∀ b o, b ∉ wr → h₂.get? b = some o → base.get? b = some o) → KpW none1 s₁.heap base := fun base kb b o hW e => kb b o (fun hm => (hwr b hm).elim hW fun q => by rw [q] at e; cases e) (hk2 b o e)
  refine block1 (RR := fun acc C => compPost (model prog w) A E none Q acc C) hcell hkind (fun _ => rfl) hself W hst old D.len (fun i C hi hC => D.test _ C i (hb _ fun b o hw e => hideAll_get _ e hw) hi)
    (fun i C hi ht hC => D.elt _ C i (hb _ fun b o hw e => hideAll_get _ e hw) hi ht) D.skip D.start ?_
  intro Da C h' tk m' ys objs hD hC hDC hn hD' hobj hΦ hkb
  have n1 : ∀ a, h₂.get? a = none → s₁.heap.get? a = none := fun a e => by
    cases q : s₁.heap.get? a with
    | none => rfl
    | some o => rw [hk2 a o q] at e; cases e
  have kp : ∀ b o, s₁.heap.get? b = some o → h'.get? b = some o := fun b o e => hkb b o (fun hm => (hwr b hm).elim id fun q => by rw [q] at e; cases e) (hk2 b o e)
  exact comp_end (s₁ := s₁) (h₂ := h₂) F N kp n1 hD hC hDC hn hD' hobj hΦ (hQ Da)
/-- a comprehension's frame with one cell of its own -/
theorem newEnv_cell {scope : Scope} {globals : Addr} {cl : List (Str × Addr)} {qual : Str} {outer : Env} {E : Value → Shared → Prop} {Q : Env → Shared → Prop} {x : Str} {s : Shared}
    (hcl : ∀ n acc, cellsFrom n scope.names acc = (x, n) :: acc) (hpu : ∀ h, pushCells h scope.names = h.push { cls := .type "cell", data := .cell none })
    (h : Q (newEnv scope s.heap.objs.size globals ((x, s.heap.objs.size + 1) :: cl) qual none .none (some outer) builtinsNs) { s with heap := (s.heap.push { cls := .type "dict", data := .dict #[] }).push { cls := .type "cell", data := .cell none } }) :
    wpAny (model prog w) A (newFunctionEnv scope globals cl [] qual none .none (some outer)) Q E s := by
  simp only [newFunctionEnv, Option.isSome_some, if_true]
  refine wpAny_bind (wpAny_alloc ?_)
  refine wpAny_bind (wpAny_layCells _ (fun name kind cells => by cases hkc : kind == NameKind.cell <;> simp [hkc]) _ _ _ _ ?_)
  rw [show ({ s with heap := s.heap.push { cls := .type "dict", data := .dict #[] } } : Shared).heap.objs.size = s.heap.objs.size + 1 from Heap.size_push .., hcl, hpu]
  refine wpAny_bind ?_
  rw [List.forIn_nil]
  exact wpAny_pure (wpAny_pure h)
theorem drw_cell {x : Str} {px : Pos} {env : Env} {C I ax c : Addr} {its : Array Value} (hh : A.handled = none) (hne : ax ≠ I) (offI : C ≠ I) (offA : C ≠ ax) (hcI : c ≠ I) (hcA : c ≠ ax) (hcC : C ≠ c)
    (hk : env.scope.kind = .function) (hl : env.kindOf x = some .cell) (hc : env.cells.lookup x = some c) :
    Drw prog w A (.Name x px) env C (.ref I) [I, c] [I, ax, c] its.size (fun i h => (h.IsListIter I ax i ∧ h.IsList ax its) ∧ ∃ v, h.IsCell c v) (fun i _ h => ∃ v, its[i]? = some v ∧ h.IsCell c (some v)) (fun _ => True) where
  sub := fun b hb => by
    rcases List.mem_cons.mp hb with rfl | hb
    · exact .head _
    · exact .tail _ (.tail _ hb)
  off := fun hm => by
    rcases List.mem_cons.mp hm with q | hm
    · exact offI q
    rcases List.mem_cons.mp hm with q | hm
    · exact offA q
    · exact hcC (List.mem_singleton.mp hm)
  frame := fun i h h' st hk' => by
    obtain ⟨st1, v, o, ho, hd⟩ := st
    exact ⟨(Walks.list (prog := prog) (w := w) hh I ax hne its).frame i h h' st1 fun b hb o e => hk' b (by
      rcases List.mem_cons.mp hb with rfl | hb
      · exact .head _
      · rw [List.mem_singleton.mp hb]; exact .tail _ (.head _)) o e, v, o, hk' c (.tail _ (.tail _ (.head _))) o ho, hd⟩
  live := fun i h st b hb => by
    rcases List.mem_cons.mp hb with rfl | hb
    · obtain ⟨o, e, _⟩ := st.1.1; exact ⟨o, e⟩
    · rw [List.mem_singleton.mp hb]; obtain ⟨_, o, e, _⟩ := st.2; exact ⟨o, e⟩
  draw := fun i s m hi st hn jm => by
    have W := Walks.list (prog := prog) (w := w) hh I ax hne its
    obtain ⟨st1, v0, oc, hoc, hdc⟩ := st
    refine W.item i s _ _ hi st1 fun v h' tk hP st' hk' => ⟨v, rfl, ?_⟩
    refine wpAny_of_eq (show letOwnedTupleGo (.Name x px) (.ref I) v = pure () from rfl) ?_
    have hCI : C ∉ [I] := fun hm => offI (List.mem_singleton.mp hm)
    have hcI' : c ∉ [I] := fun hm => hcI (List.mem_singleton.mp hm)
    refine wpAny_assign_Name (wpAny_storeName_cell hk hl hc ⟨oc, hk' _ _ hcI' hoc, hdc⟩ fun h₂ hv₂ hs₂ => ?_)
    refine ⟨h₂, _, m, rfl, ⟨v, hP, hv₂⟩, trivial, (hn.at' fun o e => hk' _ o hCI e).sameBut hs₂ hcC, ⟨W.frame _ _ _ st' fun b hb o e => (hs₂.2 b fun q => ?_).trans e, some v, hv₂⟩, fun b o hb e => ?_⟩
    · rcases List.mem_cons.mp hb with q2 | hb
      · exact hcI (q.symm.trans q2)
      · exact hcA (q.symm.trans (List.mem_singleton.mp hb))
    · exact (hs₂.2 b fun q => hb (q ▸ .tail _ (.tail _ (.head _)))).trans (hk' b o (fun hm => hb (.tail _ (by rw [List.mem_singleton.mp hm]; exact .head _))) e)
  done := fun s st => by
    have W := Walks.list (prog := prog) (w := w) hh I ax hne its
    exact W.done s _ _ st.1 fun h' tk hk' => ⟨rfl, h', tk, rfl, fun b o hb e => hk' b o (fun hm => hb (by rw [List.mem_singleton.mp hm]; exact .head _)) e⟩
end
section
variable {prog : Program} {w : World} {A : Around}
/-- a comprehension over a list whose own name is a cell -/
theorem listCompCell {elt iter : Expr} {x : Str} {px : Pos} {scope : Scope} {cl : List (Str × Addr)} {pos : Pos} {env : Env} {E : Value → Shared → Prop} {Q : Value → Shared → Prop} {s : Shared} {h₀ : Heap} {L : Addr}
    (hh : A.handled = none) (hcl1 : ∀ n acc, cellsFrom n scope.names acc = (x, n) :: acc) (hpu : ∀ h, pushCells h scope.names = h.push { cls := .type "cell", data := .cell none })
    (hrel : ∀ C cl', (compEnvC scope cl' C env).kindOf x = some .cell)
    (hclos : closureFor scope env = pure cl) (hkind : scope.kind = .function)
    (hnames : ∀ y ∈ scope.names, y.2 = .local → scope.names.lookup y.1 = some .local)
    (h : wpAny (model prog w) A (eval iter env) (fun xv s₁ => ∃ (ax : Addr) (its : Array Value) (Φ : Nat → List Value → Led → Prop) (m : Str → Option Value) (news : Led), xv = .ref ax ∧ s₁.heap.IsList ax its ∧ (∀ i ys objs, Φ i ys objs → ys.length < sizeLine) ∧ Φ 0 [] [] ∧
      (∀ base C d i v, KpW none1 s₁.heap base → d ≠ C → base.get? d = none → its[i]? = some v → EltOk prog w A base C (eval elt (compEnvC scope ((x, d) :: cl) C env)) (fun _ h => h.IsCell d (some v)) (Φ i) (Φ (i + 1))) ∧
      Fr h₀ L s₁.heap m ∧ News h₀ L s₁.heap news ∧ ∀ D h' tk ys (objs : Led), Fr h₀ L h' m → News h₀ L h' ((D, lstO ys ys.length) :: (objs ++ news)) → NewAt s₁ D objs → Φ its.size ys objs → Q (.ref D) { s₁ with heap := h', toks := tk }) E s)
    (hs : ∀ x, foldedSetIterable iter env x = pure x := by intro _; rfl) :
    wpAny (model prog w) A (eval (.ListComp elt [⟨.Name x px, iter, [], 0⟩] scope pos) env) Q E s := by
  rw [eval_ListComp]
  refine wpAny_comprehension_free (use := none) rfl hs hclos hkind hnames (wpAny_mono h (fun xv s₁ h₁ => ?_) fun _ _ e => e)
  obtain ⟨ax, its, Φ, m, news, rfl, hl, hlen, start, el, F, N, hQ⟩ := h₁
  refine wpAny_pyIter_list hl ?_
  generalize hI : s₁.heap.objs.size = I
  have hlt : ax < I := by obtain ⟨_, e, _⟩ := hl; rw [← hI]; exact Heap.lt_size e
  have fr1 : ∀ a, s₁.heap.objs.size ≤ a → s₁.heap.get? a = none := fun a ha => by
    cases e : s₁.heap.get? a with
    | none => rfl
    | some o' => exact absurd (Heap.lt_size e) (Nat.not_lt.mpr ha)
  have hk2 : ∀ b o, s₁.heap.get? b = some o → (s₁.heap.push { cls := .type "list_iterator", data := .fields #[.ref ax, .int 0 0] }).get? b = some o := fun b o e => Heap.get?_push_of_some _ e
  have hz2 : (s₁.heap.push { cls := .type "list_iterator", data := .fields #[.ref ax, .int 0 0] }).objs.size = I + 1 := by rw [Heap.size_push, hI]
  have hI2 : (s₁.heap.push { cls := .type "list_iterator", data := .fields #[.ref ax, .int 0 0] }).get? I = some { cls := .type "list_iterator", data := .fields #[.ref ax, .int 0 0] } := hI ▸ Heap.get?_push_size _ rfl
  have hl2 := hl.push { cls := .type "list_iterator", data := .fields #[.ref ax, .int 0 0] }
  generalize s₁.heap.push { cls := .type "list_iterator", data := .fields #[.ref ax, .int 0 0] } = h₂ at hk2 hz2 hI2 hl2 ⊢
  refine wpAny_newObj_type (newEnv_cell (x := x) hcl1 hpu ?_)
  dsimp only
  generalize hH2 : h₂.push { cls := .type "list", dict := none, data := .seq ([] : List Value).toArray } = H2
  have hC : H2.objs.size = h₂.objs.size + 1 := by rw [← hH2, Heap.size_push]
  have hD2 : H2.get? h₂.objs.size = some (lstO [] 0) := hH2 ▸ Heap.get?_push_size _ rfl
  have hk3 : ∀ b o, h₂.get? b = some o → H2.get? b = some o := fun b o e => hH2 ▸ Heap.get?_push_of_some _ e
  have hns : (H2.push { cls := .type "dict", data := .dict #[] }).Ns H2.objs.size fun _ => none := Heap.Ns.new H2 (.type "dict")
  have hzc : (H2.push { cls := .type "dict", data := .dict #[] }).objs.size = H2.objs.size + 1 := Heap.size_push ..
  generalize hH3 : H2.push { cls := .type "dict", data := .dict #[] } = H3 at hns hzc
  have hk4 : ∀ b o, H2.get? b = some o → H3.get? b = some o := fun b o e => hH3 ▸ Heap.get?_push_of_some _ e
  have hcc : (H3.push { cls := .type "cell", data := .cell none }).get? (H2.objs.size + 1) = some { cls := .type "cell", data := .cell none } := hzc ▸ Heap.get?_push_size _ rfl
  have hns1 : (H3.push { cls := .type "cell", data := .cell none }).Ns H2.objs.size fun _ => none := hns.keeps fun b o e => Heap.get?_push_of_some _ e
  have hk5 : ∀ b o, H3.get? b = some o → (H3.push { cls := .type "cell", data := .cell none }).get? b = some o := fun b o e => Heap.get?_push_of_some _ e
  generalize H3.push { cls := .type "cell", data := .cell none } = h₁ at hcc hns1 hk5 ⊢
  have old₁ : ∀ b o, h₂.get? b = some o → h₁.get? b = some o := fun b o e => hk5 _ _ (hk4 _ _ (hk3 _ _ e))
  have hacc : h₁.get? h₂.objs.size = some (lstO [] 0) := hk5 _ _ (hk4 _ _ hD2)
  have fresh : ∀ a, h₂.objs.size ≤ a → h₂.get? a = none := fun a ha => by
    cases e : h₂.get? a with
    | none => rfl
    | some o' => exact absurd (Heap.lt_size e) (Nat.not_lt.mpr ha)
  have hDC : h₂.objs.size ≠ H2.objs.size := by rw [hC]; exact Nat.ne_of_lt (Nat.lt_succ_self _)
  have hCle : h₂.objs.size ≤ H2.objs.size := by rw [hC]; exact Nat.le_succ _
  have hdle : h₂.objs.size ≤ H2.objs.size + 1 := Nat.le_succ_of_le hCle
  have hIlt : I < h₂.objs.size := by rw [hz2]; exact Nat.lt_succ_self _
  have hIC : H2.objs.size ≠ I := Nat.ne_of_gt (Nat.lt_of_lt_of_le hIlt hCle)
  have hAC : H2.objs.size ≠ ax := Nat.ne_of_gt (Nat.lt_of_lt_of_le (Nat.lt_trans hlt hIlt) hCle)
  have hdI : H2.objs.size + 1 ≠ I := Nat.ne_of_gt (Nat.lt_of_lt_of_le hIlt hdle)
  have hdA : H2.objs.size + 1 ≠ ax := Nat.ne_of_gt (Nat.lt_of_lt_of_le (Nat.lt_trans hlt hIlt) hdle)
  have hdC : H2.objs.size ≠ H2.objs.size + 1 := Nat.ne_of_lt (Nat.lt_succ_self _)
  have hIDw : h₂.objs.size ∉ [I, H2.objs.size + 1] := fun hm => by
    rcases List.mem_cons.mp hm with e | hm
    · exact absurd hIlt (by rw [e]; exact Nat.lt_irrefl _)
    · exact absurd (List.mem_singleton.mp hm) (Nat.ne_of_lt (by rw [hC]; exact Nat.lt_succ_of_lt (Nat.lt_succ_self _)))
  have hb0 : ∀ a, h₂.get? a = none → (hideAll h₂ [I, H2.objs.size + 1]).get? a = none := fun a e => by
    cases q : (hideAll h₂ [I, H2.objs.size + 1]).get? a with
    | none => rfl
    | some o => rw [of_hideAll _ q] at e; cases e
  have n1 : ∀ a, h₂.get? a = none → s₁.heap.get? a = none := fun a e => by
    cases q : s₁.heap.get? a with
    | none => rfl
    | some o => rw [hk2 a o q] at e; cases e
  have hkb : KpW none1 s₁.heap (hideAll h₂ [I, H2.objs.size + 1]) := fun b o _ e => hideAll_get _ (hk2 b o e) (fun hm => by
    rcases List.mem_cons.mp hm with q | hm
    · rw [q, fr1 I (Nat.le_of_eq hI)] at e
      cases e
    · rw [List.mem_singleton.mp hm, n1 _ (fresh _ hdle)] at e
      cases e)
  have W := drw_cell (prog := prog) (w := w) (px := px) (env := compEnvC scope ((x, H2.objs.size + 1) :: cl) H2.objs.size env) (x := x) hh (Nat.ne_of_lt hlt) hIC hAC hdI hdA hdC hkind (hrel _ _) (by simp [compEnvC]) (its := its)
  have hst₁ : (h₁.IsListIter I ax 0 ∧ h₁.IsList ax its) ∧ ∃ v, h₁.IsCell (H2.objs.size + 1) v := ⟨⟨⟨_, old₁ _ _ hI2, rfl, rfl⟩, hl2.at fun o e => old₁ _ _ e⟩, none, _, hcc, rfl⟩
  have loop : ∀ s₃ : Shared, s₃ = { s₁ with heap := h₁ } →
      codeAny (model prog w) A (.compLoop (.ListComp elt [⟨.Name x px, iter, [], 0⟩] scope pos) 0 (.ref I) (.ref h₂.objs.size) (compEnvC scope ((x, H2.objs.size + 1) :: cl) H2.objs.size env))
        (compPost (model prog w) A E none Q (.ref h₂.objs.size) H2.objs.size) s₃ := by
    rintro s₃ rfl
    refine loop1 (xt := []) (s₀ := s₁) (base := hideAll h₂ [I, H2.objs.size + 1]) (C := H2.objs.size) (D := h₂.objs.size) (env := compEnvC scope ((x, H2.objs.size + 1) :: cl) H2.objs.size env) (tst := fun _ => true) (Φ := Φ) rfl rfl rfl (turn1 _ _ _ _ _ _ _ _ _) W (fun b hb hw => ?_) hlen
      (fun i hi => testOk_nil) (fun i hi _ => ?_) (fun i ys objs hi e => by cases e) (fun _ hq => nomatch hq) (fun s hF => ?_) 0 _ (Nat.zero_le _)
      ⟨h₁, _, _, [], [], [(I, { cls := .type "list_iterator", data := .fields #[.ref ax, .int 0 0] }), (H2.objs.size + 1, { cls := .type "cell", data := .cell none })], rfl, hst₁, ⟨hns1, fun b o e => old₁ b o (of_hideAll _ e), by rw [hideAll_size]; exact hCle⟩, ?_, rfl, (fun _ hp => nomatch hp), hIDw, start, trivial⟩
    · rcases List.mem_cons.mp hb with rfl | hb
      · exact absurd (.head _) hw
      rcases List.mem_cons.mp hb with rfl | hb
      · obtain ⟨o, e, _⟩ := hl2
        exact ⟨o, hideAll_get _ e fun hm => by
          rcases List.mem_cons.mp hm with q | hm
          · exact Nat.ne_of_lt hlt q
          · exact hdA (List.mem_singleton.mp hm).symm⟩
      · exact absurd (by rw [List.mem_singleton.mp hb]; exact .tail _ (.head _)) hw
    · intro s' m' news' E' F' N' hb'
      obtain ⟨v, hv, hcv⟩ := hb'
      exact el _ _ (H2.objs.size + 1) i v hkb hdC.symm (hideAll_none _ (.tail _ (.head _))) hv s' m' news' E' F' N' hcv
    · obtain ⟨h', tk, m', ys, objs, rfl, F', N', hob, _, hΦ, _⟩ := hF
      rw [List.append_nil] at N'
      have f2 : ∀ a, (hideAll h₂ [I, H2.objs.size + 1]).get? a = none → a ∉ [I, H2.objs.size + 1] → h₂.get? a = none := fun a e hn => by
        cases q : h₂.get? a with
        | none => rfl
        | some o => rw [hideAll_get _ q hn] at e; cases e
      exact comp_end (s₁ := s₁) (h₂ := h₂) F N (fun b o e => F'.keep _ _ (hkb b o id e)) n1 (fresh _ (Nat.le_refl _)) (fresh _ hCle) hDC F'.ns (N' _ (.head _)).1 (fun p hp => ⟨(N' p (.tail _ hp)).1, f2 _ (N' p (.tail _ hp)).2.2 (hob p hp).2.1, (hob p hp).1, (N' p (.tail _ hp)).2.1⟩) hΦ (hQ _)
    · intro q hq
      rcases List.mem_cons.mp hq with rfl | hq
      · exact ⟨hacc, hDC, hb0 _ (fresh _ (Nat.le_refl _))⟩
      rcases List.mem_cons.mp hq with rfl | hq
      · exact ⟨old₁ _ _ hI2, fun e => hIC e.symm, hideAll_none _ (.head _)⟩
      rcases List.mem_cons.mp hq with rfl | hq
      · exact ⟨hcc, fun e => hdC e.symm, hideAll_none _ (.tail _ (.head _))⟩
      · cases hq
  exact codeAny_compStart_list (loop _ rfl) (wpAny_pyIter_listiter hst₁.1.1 (loop _ rfl))
end
section
variable {prog : Program} {w : World} {A : Around}
/-- a pair of names, drawn by a walk of the library's over tuples -/
theorem Drw.ofWalksT {a b : Str} {pa pb tp : Pos} {kk : Nat} {env : Env} {C I : Addr} {fp wr : List Addr} {n : Nat} {Pt : Nat → Array Value → Prop} {St : Nat → Heap → Prop} {Mid : Nat → Addr → Heap → Prop} (hh : A.handled = none)
    (W : WalksT prog w A I fp wr n Pt St Mid) (live : ∀ i h, St i h → ∀ b ∈ wr, ∃ o, h.get? b = some o) (off : C ∉ fp) (hab : a ≠ b) (hpt : ∀ i vals, Pt i vals → ∃ x y, vals = #[x, y])
    (ha : env.kindOf a = some .local) (hb : env.kindOf b = some .local) (hL : env.locals = C) (hp : (env.scope.kind == .class || (env.scope.kind == .module && env.locals != env.globals)) = false) :
    Drw prog w A (.Tuple [.Name a pa, .Name b pb] kk tp) env C (.ref I) wr fp n St (fun i m _ => ∃ x y, Pt i #[x, y] ∧ m a = some x ∧ m b = some y) (fun _ => True) where
  sub := W.sub
  off := off
  frame := W.frame
  live := live
  draw := fun i s m hi st hn _ => by
    subst hL
    have hLw : env.locals ∉ wr := fun hm => off (W.sub _ hm)
    refine W.item i s _ _ hi st fun T vals h' tk hP _ hT hM hk => ⟨.ref T, rfl, ?_⟩
    obtain ⟨x, y, rfl⟩ := hpt i vals hP
    refine W.go _ _ _ i T _ _ _ hM fun h₂ st₂ hk₂ => ?_
    have hn₂ : h₂.Ns env.locals m := (hn.at' fun o e => hk _ o hLw e).at' fun o e => hk₂ _ o hLw e
    refine kcp_assign hh (hT.at fun o e => hk₂ T o (W.apart i T _ hM) e) ha hb hp hn₂ fun h₃ tk₃ hn₃ hk₃ => ?_
    refine ⟨h₃, tk₃, _, rfl, ⟨x, y, hP, (if_neg hab).trans (if_pos rfl), if_pos rfl⟩, trivial, hn₃, W.frame _ _ _ st₂ fun c hc o e => hk₃ c o (fun q => off (q ▸ hc)) e, fun c o hc e => ?_⟩
    exact hk₃ c o (fun q => hc (q ▸ .head _)) (hk₂ c o (fun hm => hc (.tail _ hm)) (hk c o (fun hm => hc (.tail _ hm)) e))
  done := fun s st => W.done s _ _ st fun h' tk hk => ⟨rfl, h', tk, rfl, hk⟩
theorem src_enum {a b : Str} {pa pb tp : Pos} {kk : Nat} {ev : Addr → Env} {ax I e : Addr} {old : Value} {its : Array Value} {s₁ : Shared} (hh : A.handled = none) (hab : a ≠ b)
    (hE : IsEnum s₁.heap e I 0 old) (hI : s₁.heap.IsListIter I ax 0) (hl : s₁.heap.IsList ax its) (heI : e ≠ I) (hle : ax ≠ e) (hlI : ax ≠ I)
    (ha : ∀ C, (ev C).kindOf a = some .local) (hb : ∀ C, (ev C).kindOf b = some .local) (hL : ∀ C, (ev C).locals = C) (hp : ∀ C, ((ev C).scope.kind == .class || ((ev C).scope.kind == .module && (ev C).locals != (ev C).globals)) = false) :
    Src1 prog w A (.Tuple [.Name a pa, .Name b pb] kk tp) ev (.ref e) s₁ its.size (fun c => c = e ∨ c = I) (fun i m _ => ∃ x y, (∃ t z, its[i]? = some z ∧ (#[x, y] : Array Value) = #[.int i t, z]) ∧ m a = some x ∧ m b = some y) := by
  intro K E h
  refine wpAny_pyIter_enum hE ?_
  have W := WalksT.enumerate (prog := prog) (w := w) hh e I ax heI hle hlI its
  refine h (.ref e) s₁.heap [e, I] [e, I, ax] _ (fun _ _ q => q) (fun c hc => .inl ?_) (fun C hC => Drw.ofWalksT hh W (fun i h' st c hc => ?_) hC hab (fun i vals hp => by obtain ⟨t, z, _, rfl⟩ := hp; exact ⟨_, _, rfl⟩) (ha C) (hb C) (hL C) (hp C)) ⟨⟨old, hE⟩, hI, hl⟩ (fun c hc => ?_) (fun s Q E st hq => W.self 0 s Q E st hq)
  · rcases List.mem_cons.mp hc with rfl | hc
    · exact .inl rfl
    · exact .inr (List.mem_singleton.mp hc)
  · obtain ⟨⟨o1, he⟩, ⟨o2, ho2, _⟩, _⟩ := st
    rcases List.mem_cons.mp hc with rfl | hc
    · exact ⟨_, he⟩
    · rw [List.mem_singleton.mp hc]; exact ⟨o2, ho2⟩
  · rcases List.mem_cons.mp hc with rfl | hc
    · exact ⟨_, hE⟩
    rcases List.mem_cons.mp hc with rfl | hc
    · obtain ⟨o2, ho2, _⟩ := hI; exact ⟨o2, ho2⟩
    · rw [List.mem_singleton.mp hc]
      obtain ⟨o2, ho2, _⟩ := hl; exact ⟨o2, ho2⟩
/-- a comprehension that draws upon objects of the ledger's -/
theorem listCompW {elt target iter : Expr} {ifs : List Expr} {scope : Scope} {cl : List (Str × Addr)} {pos : Pos} {env : Env} {E : Value → Shared → Prop} {Q : Value → Shared → Prop} {s : Shared} {h₀ : Heap} {L : Addr}
    (hclos : closureFor scope env = pure cl) (hcell : ∀ y ∈ scope.names, y.2 ≠ .cell) (hkind : scope.kind = .function)
    (hnames : ∀ y ∈ scope.names, y.2 = .local → scope.names.lookup y.1 = some .local)
    (h : wpAny (model prog w) A (eval iter env) (fun xv s₁ => ∃ n Wr Bnd Φ tst m news, Src1 prog w A target (fun C => compEnvC scope cl C env) xv s₁ n Wr Bnd ∧ Duty prog w A ifs elt (fun C => compEnvC scope cl C env) s₁ n Wr Bnd Φ tst ∧
      Fr h₀ L s₁.heap m ∧ News h₀ L s₁.heap news ∧ (∀ b, Wr b → h₀.get? b = none ∧ b ≠ L ∧ ∀ p ∈ news, p.1 ≠ b) ∧ ∀ D h' tk ys (objs : Led), Fr h₀ L h' m → News h₀ L h' ((D, lstO ys ys.length) :: (objs ++ news)) → NewAt s₁ D objs → Φ n ys objs → Q (.ref D) { s₁ with heap := h', toks := tk }) E s)
    (hs : ∀ x, foldedSetIterable iter env x = pure x := by intro _; rfl) :
    wpAny (model prog w) A (eval (.ListComp elt [⟨target, iter, ifs, 0⟩] scope pos) env) Q E s := by
  refine listComp1 hclos hcell hkind hnames (wpAny_mono h (fun xv s₁ h₁ => ?_) fun _ _ e => e) hs
  obtain ⟨n, Wr, Bnd, Φ, tst, m, news, S, Dt, F, N, hW, hQ⟩ := h₁
  refine ⟨n, Wr, Bnd, Φ, tst, S, Dt, fun D h' tk ys objs hk hD hD' hobj hΦ => ?_⟩
  have nL : ∀ a, s₁.heap.get? a = none → a ≠ L := fun a e q => by
    obtain ⟨oL, _, _, hL, _⟩ := F.ns
    rw [q, hL] at e
    cases e
  have n0 : ∀ a, s₁.heap.get? a = none → h₀.get? a = none := fun a e => by
    cases q : h₀.get? a with
    | none => rfl
    | some o => rw [F.keep _ _ q] at e; cases e
  refine hQ D h' tk ys objs ⟨F.ns.at' fun o e => hk _ o (fun hw => (hW _ hw).2.1 rfl) e, fun b o e => hk b o (fun hw => by rw [(hW _ hw).1] at e; cases e) (F.keep b o e), F.above⟩ (fun q hq => ?_) ⟨hD, fun p hp => (hobj p hp).2⟩ hΦ
  rcases List.mem_cons.mp hq with rfl | hq
  · exact ⟨hD', nL _ hD, n0 _ hD⟩
  rcases List.mem_append.mp hq with hq | hq
  · obtain ⟨z1, z2, _⟩ := hobj q hq
    exact ⟨z1, nL _ z2, n0 _ z2⟩
  · exact ⟨hk _ _ (fun hw => (hW _ hw).2.2 q hq rfl) (N q hq).1, (N q hq).2⟩
end
section
variable {prog : Program} {w : World} {s : Shared} {base : Heap} {outer : List Env} {K : Frag}
  {R : Result → Shared → Prop} {name qual : Str} {params : Arguments} {body : List Stmt} {scope : Scope} {doc pm cdv oc : Value} {od : Option Addr} {osl : Array (Option Value)} {f : Addr} {vals : List Value} {binds : List (Str × Value)}
  {p : Program} {loose : List Str} {mean : ExcName → Option Value} {mg mb : Str → Option Value} {A : Around} {c : Str}
theorem enterC (B : Below A base outer s.heap) (X : K.In s.heap) (T : Top p loose mean mg mb s.heap)
    (ho : K.lookup f = some ⟨oc, od, .func (fnOf name qual params body scope .none .none doc pm none cdv .none), osl⟩) (hcd : codeIn K cdv qual = true) (hroom : A.depth < recursionLimit)
    (hbind : bindArgs (fnOf name qual params body scope .none .none doc pm none cdv .none) ⟨vals, []⟩ = pure binds) (hloc : ∀ y ∈ binds, scope.names.lookup y.1 = some .local)
    (hcells : ∀ L, cellsFrom L scope.names [] = [(c, L)])
    (h : ∀ g L' h₁ tk o, g = s.heap → Fr g L' h₁ (bindL (envOfC qual scope L' f cdv).kindOf binds fun _ => none) → News g L' h₁ [(L' + 1, o)] → o.data = .cell none → Below A base outer g → K.In g → Top p loose mean mg mb g →
      wpAny (model prog w) (A.deeper (envOfC qual scope L' f cdv)) (execs body (envOfC qual scope L' f cdv))
        (fun fl s' => R (.ok (.ret (retOf fl))) s') (fun _ _ => False)
        { s with heap := h₁, toks := tk })
    (hbc : ∀ L, bindC (envOfC qual scope L f cdv).kindOf binds (fun _ => none) c = none)
    (hco : scope.isCoroutine = false := by rfl) (hgen : scope.isGenerator = false := by rfl) (hk : scope.kind = .function := by rfl) :
    codeAny (model prog w) A (.call (.ref f) ⟨vals, []⟩) R s := by
  refine codeAny_call_cells (fd := fnOf name qual params body scope .none .none doc pm none cdv .none) (body := body) (binds := binds) hroom (X _ _ ho) rfl T.nolimit (codeRec_of X hcd) rfl hbind rfl (fun y hy => .inl (hloc y hy)) (fun s₁ I => ?_) hco hgen hk
  obtain ⟨h₁, tk, rfl, _⟩ := I.done
  have hc : h₁.IsCell (s.heap.objs.size + 1) none := by
    have := I.cell c (s.heap.objs.size + 1) (by show List.lookup c (cellsFrom (s.heap.objs.size + 1) scope.names []) = _; rw [hcells]; simp)
    rw [show bindC (callEnvC (fnOf name qual params body scope .none .none doc pm none cdv .none) s.heap.objs.size f).kindOf binds (fun _ => none) c = none from hbc _] at this
    exact this
  obtain ⟨o, hoc, hod⟩ := hc
  exact wpAny_mono (h s.heap s.heap.objs.size h₁ tk o rfl ⟨I.toInCall.ns, I.toInCall.keep, I.toInCall.fresh⟩ (fun q hq => by
    rw [List.mem_singleton.mp hq]
    refine ⟨hoc, Nat.succ_ne_self _, ?_⟩
    cases e : s.heap.get? (s.heap.objs.size + 1) with
    | none => rfl
    | some o' => exact absurd (Heap.lt_size e) (Nat.not_lt.mpr (Nat.le_succ _))) hod B X T) (fun fl s' hl => hl) fun _ _ y => y.elim
end
section
variable {prog : Program} {w : World} {A : Around}
/-- a list's iterator is no owner of a tuple -/
theorem let_list {elts : List Expr} {k : Nat} {pos : Pos} {I ax : Addr} {i : Nat} {v : Value} {s : Shared} {Q : Unit → Shared → Prop} {E : Value → Shared → Prop} (h : s.heap.IsListIter I ax i) (hq : Q () s) : wpAny (model prog w) A (letOwnedTupleGo (.Tuple elts k pos) (.ref I) v) Q E s := by
  obtain ⟨o, ho, hc, hd⟩ := h
  cases v with
  | ref a =>
    show wpAny _ _ (load I >>= _) _ _ _
    refine wpAny_bind (wpAny_load ho ?_)
    rw [hc, hd]
    dsimp only
    rw [if_neg (by simp)]
    exact wpAny_pure hq
  | _ => exact wpAny_pure hq
/-- a for over a list that stands through all turns: its invariant speaks of the frame's names and the ledger -/
theorem forT {target iter : Expr} {body : List Stmt} {pos : Pos} {env : Env} {Q : Flow → Shared → Prop} {s : Shared} {h₀ : Heap} {L : Addr} (hh : A.handled = none)
    (htg : ∀ I ax i v (s : Shared) (Q : Unit → Shared → Prop) (E : Value → Shared → Prop), s.heap.IsListIter I ax i → Q () s → wpAny (model prog w) A (letOwnedTupleGo target (.ref I) v) Q E s)
    (h : wpAny (model prog w) A (eval iter env) (fun xv s₁ => ∃ (ax : Addr) (its : Array Value) (m : Str → Option Value) (news : Led) (P : Nat → (Str → Option Value) → Led → Prop), xv = .ref ax ∧
      Fr h₀ L s₁.heap m ∧ News h₀ L s₁.heap news ∧ P 0 m news ∧ (∀ i h m news, Fr h₀ L h m → News h₀ L h news → P i m news → h.IsList ax its) ∧
      (∀ i v m news I oI s, its[i]? = some v → Fr h₀ L s.heap m → News h₀ L s.heap ((I, oI) :: news) → P i m news → (∀ q ∈ news, q.1 ≠ I) → (∃ xs, oI.data = .fields xs) → s.gens = s₁.gens → s.drawn = s₁.drawn → s.os = s₁.os →
        wpAny (model prog w) A (assign target env v) (fun _ s' => wpAny (model prog w) A (execs body env) (fun f s'' => match f with
          | .next => ∃ h' tk' m' news', s'' = { s₁ with heap := h', toks := tk' } ∧ Fr h₀ L h' m' ∧ News h₀ L h' ((I, oI) :: news') ∧ P (i + 1) m' news' ∧ ∀ q ∈ news', q.1 ≠ I
          | .ret r => Q (.ret r) s''
          | _ => False) Ef s') Ef s) ∧
      ∀ h' tk m news, Fr h₀ L h' m → News h₀ L h' news → P its.size m news → Q .next { s₁ with heap := h', toks := tk }) Ef s)
    (hs : ∀ x, foldedSetIterable iter env x = pure x := by intro _; rfl) :
    wpAny (model prog w) A (exec (.For target iter body [] pos) env) Q Ef s := by
  refine wpAny_For (wpAny_mono h (fun xval s₁ h₁ => ?_) fun _ _ x => x) hs
  obtain ⟨ax, its, m, news, P, rfl, F, N, h0, hl, step, hQ⟩ := h₁
  have hl₁ := hl 0 _ m news F N h0
  have hlt : ax < s₁.heap.objs.size := by obtain ⟨_, e, _⟩ := hl₁; exact Heap.lt_size e
  refine wpAny_pyIter_list hl₁ ?_
  have F₁ := F.push { cls := .type "list_iterator", data := .fields #[.ref ax, .int 0 0] }
  have N₁ := News.push F N { cls := .type "list_iterator", data := .fields #[.ref ax, .int 0 0] }
  have W := Walks.list (prog := prog) (w := w) hh s₁.heap.objs.size ax (Nat.ne_of_lt hlt) its
  have hax : ax ≠ s₁.heap.objs.size := Nat.ne_of_lt hlt
  refine codeAny_forLoop_any (fun k s' => ∃ i, i ≤ its.size ∧ k = its.size + 1 - i ∧ ∃ h' tk m' news' oI, s' = { s₁ with heap := h', toks := tk } ∧ h'.IsListIter s₁.heap.objs.size ax i ∧ Fr h₀ L h' m' ∧ News h₀ L h' ((s₁.heap.objs.size, oI) :: news') ∧ P i m' news' ∧ ∀ q ∈ news', q.1 ≠ s₁.heap.objs.size) ?_ (its.size + 1)
    ⟨0, Nat.zero_le _, rfl, _, _, m, news, _, rfl, ⟨_, Heap.get?_push_size _ rfl, rfl, rfl⟩, F₁, N₁, h0, fun q hq => Nat.ne_of_lt (Heap.lt_size (N q hq).1)⟩
  rintro k s' ⟨i, hi, rfl, h', tk, m', news', oI, rfl, hit, F', N', hP, hoff⟩
  have Nn : News h₀ L h' news' := fun q hq => N' q (.tail _ hq)
  have hl' := hl i _ m' news' F' Nn hP
  have hI := N' _ (.head _)
  have keep : ∀ h₂, (∀ b o, b ∉ [s₁.heap.objs.size] → h'.get? b = some o → h₂.get? b = some o) → Fr h₀ L h₂ m' ∧ News h₀ L h₂ news' := fun h₂ hk =>
    ⟨⟨F'.ns.at' fun o e => hk _ o (fun hm => hI.2.1 (List.mem_singleton.mp hm).symm) e, fun b o e => hk b o (fun hm => by rw [List.mem_singleton.mp hm, hI.2.2] at e; cases e) (F'.keep b o e), F'.above⟩,
      fun q hq => ⟨hk _ _ (fun hm => hoff q hq (List.mem_singleton.mp hm)) (Nn q hq).1, (Nn q hq).2⟩⟩
  by_cases hlt' : i < its.size
  · refine W.item i _ _ _ hlt' ⟨hit, hl'⟩ fun v h₂ tk₂ hv st₂ hk => ?_
    obtain ⟨F₂, N₂⟩ := keep h₂ hk
    refine htg _ ax (i + 1) _ { s₁ with heap := h₂, toks := tk₂ } _ _ st₂.1 ?_
    obtain ⟨oI₂, hoI₂, hci, hdi⟩ := st₂.1
    have N₃ : News h₀ L h₂ ((s₁.heap.objs.size, oI₂) :: news') := fun q hq => by
      rcases List.mem_cons.mp hq with rfl | hq
      · exact ⟨hoI₂, hI.2⟩
      · exact N₂ q hq
    refine wpAny_mono (step i v m' news' s₁.heap.objs.size oI₂ _ hv F₂ N₃ hP hoff ⟨_, hdi⟩ rfl rfl rfl) (fun _ s₃ h₃ => wpAny_mono h₃ (fun f s₄ h₄ => ?_) fun _ _ x => x.elim) fun _ _ x => x.elim
    cases f with
    | next =>
      obtain ⟨h₄, tk₄, m₄, news₄, rfl, F₄, N₄, hP₄, ho₄⟩ := h₄
      exact ⟨its.size + 1 - (i + 1), by omega, i + 1, hlt', rfl, h₄, tk₄, m₄, news₄, oI₂, rfl, ⟨oI₂, (N₄ _ (.head _)).1, hci, hdi⟩, F₄, N₄, hP₄, ho₄⟩
    | ret r => exact h₄
    | brk => exact h₄.elim
    | cont => exact h₄.elim
  · obtain rfl : i = its.size := by omega
    refine W.done _ _ _ ⟨hit, hl'⟩ fun h₂ tk₂ hk => ?_
    obtain ⟨F₂, N₂⟩ := keep h₂ hk
    exact wpAny_execs_nil (hQ h₂ tk₂ m' news' F₂ N₂ hP)
theorem forK {target iter : Expr} {body : List Stmt} {pos : Pos} {env : Env} {Q : Flow → Shared → Prop} {s : Shared} {h₀ : Heap} {L : Addr} (hh : A.handled = none)
    (htg : ∀ it v, (letOwnedTupleGo target it v : Sem Unit) = pure ())
    (h : wpAny (model prog w) A (eval iter env) (fun xv s₁ => ∃ (ax : Addr) (its : Array Value) (m : Str → Option Value) (news : Led) (P : Nat → (Str → Option Value) → Led → Prop), xv = .ref ax ∧
      Fr h₀ L s₁.heap m ∧ News h₀ L s₁.heap news ∧ P 0 m news ∧ (∀ i h m news, Fr h₀ L h m → News h₀ L h news → P i m news → h.IsList ax its) ∧
      (∀ i v m news I oI s, its[i]? = some v → Fr h₀ L s.heap m → News h₀ L s.heap ((I, oI) :: news) → P i m news → (∀ q ∈ news, q.1 ≠ I) → (∃ xs, oI.data = .fields xs) → s.gens = s₁.gens → s.drawn = s₁.drawn → s.os = s₁.os →
        wpAny (model prog w) A (assign target env v) (fun _ s' => wpAny (model prog w) A (execs body env) (fun f s'' => match f with
          | .next => ∃ h' tk' m' news', s'' = { s₁ with heap := h', toks := tk' } ∧ Fr h₀ L h' m' ∧ News h₀ L h' ((I, oI) :: news') ∧ P (i + 1) m' news' ∧ ∀ q ∈ news', q.1 ≠ I
          | .ret r => Q (.ret r) s''
          | _ => False) Ef s') Ef s) ∧
      ∀ h' tk m news, Fr h₀ L h' m → News h₀ L h' news → P its.size m news → Q .next { s₁ with heap := h', toks := tk }) Ef s)
    (hs : ∀ x, foldedSetIterable iter env x = pure x := by intro _; rfl) :
    wpAny (model prog w) A (exec (.For target iter body [] pos) env) Q Ef s :=
  forT hh (fun _ _ _ _ _ _ _ _ hq => wpAny_of_eq (htg _ _) hq) h hs
end
/-! rows as a pure relation over a ledger -/
def ins (t : Int) (row : List Int) : List (List Int) := (List.range (row.length + 1)).map fun k => row.take k ++ [t] ++ row.drop k
def ostep (rows : List (List Int)) (t : Int) : List (List Int) := rows.flatMap (ins t)
def orders (ts : List Int) : List (List Int) := ts.foldl ostep [[]]
def RowObj (o : Obj) (row : List Int) : Prop := ∃ vs n, o = lstO vs n ∧ IntsAre vs row
def RelR (ys : List Value) (objs : Led) (rows : List (List Int)) : Prop := ys = objs.reverse.map (fun p => .ref p.1) ∧ Paired RowObj (objs.reverse.map (·.2)) rows
theorem RelR.nil : RelR [] [] [] := ⟨rfl, .nil⟩
theorem RelR.snoc {ys : List Value} {objs : Led} {rows : List (List Int)} {a : Addr} {o : Obj} {r : List Int} (h : RelR ys objs rows) (ho : RowObj o r) : RelR (ys ++ [.ref a]) ([(a, o)] ++ objs) (rows ++ [r]) := by
  obtain ⟨rfl, hp⟩ := h
  refine ⟨by simp, ?_⟩
  have : ([(a, o)] ++ objs).reverse.map (·.2) = objs.reverse.map (·.2) ++ [o] := by simp
  rw [this]
  exact hp.snoc ho
theorem paired_get {α β : Type} {R : α → β → Prop} : ∀ {l₁ : List α} {l₂ : List β}, Paired R l₁ l₂ → ∀ {i : Nat} {a : α}, l₁[i]? = some a → ∃ b, l₂[i]? = some b ∧ R a b
  | _, _, .nil, _, _, h => by simp at h
  | _, _, .cons r _, 0, _, h => by simp at h; subst h; exact ⟨_, rfl, r⟩
  | _, _, .cons _ p, i + 1, _, h => by
    obtain ⟨b, hb, r⟩ := paired_get p (i := i) (by simpa using h)
    exact ⟨b, by simpa using hb, r⟩
theorem RelR.len {ys : List Value} {objs : Led} {rows : List (List Int)} (h : RelR ys objs rows) : ys.length = rows.length := by
  obtain ⟨rfl, hp⟩ := h
  have := hp.length
  simpa using this
/-- the i-th row's object -/
theorem RelR.get {ys : List Value} {objs : Led} {rows : List (List Int)} (h : RelR ys objs rows) {i : Nat} {v : Value} (hv : ys[i]? = some v) : ∃ a vs n r, v = .ref a ∧ (a, lstO vs n) ∈ objs ∧ IntsAre vs r ∧ rows[i]? = some r := by
  obtain ⟨rfl, hp⟩ := h
  rw [List.getElem?_map] at hv
  cases e : objs.reverse[i]? with
  | none => rw [e] at hv; simp at hv
  | some p =>
    rw [e] at hv
    have hv' : Value.ref p.1 = v := by simpa using hv
    obtain ⟨r, hr, vs, n, ho, hi⟩ := paired_get hp (i := i) (a := p.2) (by rw [List.getElem?_map, e]; rfl)
    have hm := List.mem_of_getElem? e
    refine ⟨p.1, vs, n, r, hv'.symm, ?_, hi, hr⟩
    rw [← ho]
    exact List.mem_reverse.mp hm
theorem ins_len (t : Int) (row : List Int) : (ins t row).length = row.length + 1 := by simp [ins]
theorem ins_get {t : Int} {row : List Int} {j : Nat} (h : j < row.length + 1) : (ins t row)[j]? = some (row.take j ++ [t] ++ row.drop j) := by
  simp [ins, h]
theorem part_step {t : Int} {row : List Int} {P : List (List Int)} {j : Nat} (h : j < row.length + 1) : P ++ (ins t row).take (j + 1) = (P ++ (ins t row).take j) ++ [row.take j ++ [t] ++ row.drop j] := by
  have e : (ins t row).take (j + 1) = (ins t row).take j ++ [row.take j ++ [t] ++ row.drop j] := by
    rw [List.take_add_one, ins_get h]; rfl
  rw [e, List.append_assoc P]
theorem part_turn {t : Int} {rs : List (List Int)} {row : List Int} {i : Nat} (h : rs[i]? = some row) : (rs.take i).flatMap (ins t) ++ (ins t row).take (row.length + 1) = (rs.take (i + 1)).flatMap (ins t) ++ [] := by
  have e : (ins t row).take (row.length + 1) = ins t row := List.take_of_length_le (by rw [ins_len]; exact Nat.le_refl _)
  have e2 : rs.take (i + 1) = rs.take i ++ [row] := by rw [List.take_add_one, h]; rfl
  rw [e, e2, List.append_nil, List.flatMap_append]
  simp
section
variable {M : Model} {A : Around} {E : Value → Shared → Prop} {s : Shared} {base : Heap} {C c : Addr} {m : Str → Option Value} {scope : Scope} {cl : List (Str × Addr)} {env : Env} {x : Str} {pos : Pos} {v : Value} {Q : Value → Shared → Prop}
/-- a name of the comprehension's own dict -/
theorem ldOwn (F : Fr base C s.heap m) (hx : m x = some v) (h : Q v s)
    (hk : (compEnvC scope cl C env).scope.kind = .function) (hl : (compEnvC scope cl C env).kindOf x = some .local) (hd : (x == ("__debug__" : Str)) = false := by decide) :
    wpAny M A (eval (.Name x pos) (compEnvC scope cl C env)) Q E s := ldVarK F.ns hx h hk hl hd
/-- a cell that stood ahead -/
theorem ldCellB (F : Fr base C s.heap m) (hd : base.IsCell c (some v)) (hc : cl.lookup x = some c) (h : Q v s)
    (hk : (compEnvC scope cl C env).scope.kind = .function) (hx : (compEnvC scope cl C env).kindOf x = some .cell) (hb : (x == ("__debug__" : Str)) = false := by decide) :
    wpAny M A (eval (.Name x pos) (compEnvC scope cl C env)) Q E s := wpAny_Name (wpAny_loadName_cell hk hx hc (hd.keeps F.keep) h) hb
theorem ldFreeB (F : Fr base C s.heap m) (hd : base.IsCell c (some v)) (hc : cl.lookup x = some c) (h : Q v s)
    (hk : (compEnvC scope cl C env).scope.kind = .function) (hx : (compEnvC scope cl C env).kindOf x = some .free) (hb : (x == ("__debug__" : Str)) = false := by decide) (hn : (x == ("__classdict__" : Str)) = false := by decide) :
    wpAny M A (eval (.Name x pos) (compEnvC scope cl C env)) Q E s := wpAny_Name (wpAny_loadName_free hk hx hc (hd.keeps F.keep) h hn) hb
end
theorem RowObj.not_cell {o : Obj} {r : List Int} (h : RowObj o r) {v : Option Value} (hd : o.data = .cell v) : False := by
  obtain ⟨vs, n, rfl, _⟩ := h
  cases hd
/-- the state ahead of the i-th thing -/
def OrdSt (c : Addr) (rows : List (List Int)) (m : Str → Option Value) (news : Led) : Prop :=
  ∃ (R : Addr) (ys : List Value) (k : Nat) (rl : Led) (o : Obj) (v : Option Value), m (Str.ofString "rows") = some (.ref R) ∧ (R, lstO ys k) ∈ news ∧ (∀ p ∈ rl, p ∈ news) ∧ RelR ys rl rows ∧ (c, o) ∈ news ∧ o.data = .cell v
theorem RelR.rowObj {ys : List Value} {objs : Led} {rows : List (List Int)} (h : RelR ys objs rows) {p : Addr × Obj} (hp : p ∈ objs) : ∃ r, RowObj p.2 r := by
  obtain ⟨rfl, hq⟩ := h
  obtain ⟨i, hi⟩ := List.getElem?_of_mem (List.mem_reverse.mpr hp)
  obtain ⟨r, _, hr⟩ := paired_get hq (i := i) (a := p.2) (by rw [List.getElem?_map, hi]; rfl)
  exact ⟨r, hr⟩
def dg (n : Int) : Str := Str.ofString (toString n)
def nmS (n : Int) : Str := Str.ofString "stop-" ++ dg n
def nmU (n : Int) : Str := Str.ofString "STOP-" ++ dg n
def Dig (n : Int) : Prop := n = 0 ∨ n = 1 ∨ n = 2 ∨ n = 3 ∨ n = 4
theorem scanS {n : Int} (h : Dig n) : scan codeN (nmS n) = true := by
  rcases h with rfl | rfl | rfl | rfl | rfl <;> decide +kernel
theorem scanU {n : Int} (h : Dig n) : scan codeN (nmU n) = true := by
  rcases h with rfl | rfl | rfl | rfl | rfl <;> decide +kernel
theorem lowS {n : Int} (h : Dig n) : Txt.lower (nmS n) = nmS n := by
  rcases h with rfl | rfl | rfl | rfl | rfl <;> decide +kernel
theorem lowU {n : Int} (h : Dig n) : Txt.lower (nmU n) = nmS n := by
  rcases h with rfl | rfl | rfl | rfl | rfl <;> decide +kernel
theorem lenS {n : Int} (h : Dig n) : Builtin.Str.tooLong (nmS n).length = false := by
  rcases h with rfl | rfl | rfl | rfl | rfl <;> decide +kernel
theorem lend {n : Int} (h : Dig n) : (dg n).length ≤ 1 := by
  rcases h with rfl | rfl | rfl | rfl | rfl <;> decide +kernel
theorem injS {n k : Int} (h : Dig n) (hk : Dig k) : nmS n = nmS k ↔ n = k := by
  rcases h with rfl | rfl | rfl | rfl | rfl <;> rcases hk with rfl | rfl | rfl | rfl | rfl <;> decide +kernel
section
variable {prog : Program} {w : World} {A : Around} {E : Value → Shared → Prop} {s : Shared} {Q : Value → Shared → Prop} {n : Int} {t u : Tok}
theorem str_dig (h : Dig n) (k : ∀ t' k, Q (.str (dg n) t') { s with toks := k }) : wpAny (model prog w) A (call (.type "str") [.int n t]) Q E s := by
  refine P.str_of_int ?_ (k _ _)
  rcases h with rfl | rfl | rfl | rfl | rfl <;> decide +kernel
theorem addS (h : Dig n) (k : ∀ t' k, Q (.str (nmS n) t') { s with toks := k }) : wpAny (model prog w) A (binaryOp .Add (.str (Str.ofString "stop-") t) (.str (dg n) u)) Q E s :=
  KXadd.add (K := 5) (L := 1) (by decide +kernel) (lend h) (by decide) fun t' c _ => k t' c
theorem addU (h : Dig n) (k : ∀ t' k, Q (.str (nmU n) t') { s with toks := k }) : wpAny (model prog w) A (binaryOp .Add (.str (Str.ofString "STOP-") t) (.str (dg n) u)) Q E s :=
  KXadd.add (K := 5) (L := 1) (by decide +kernel) (lend h) (by decide) fun t' c _ => k t' c
theorem lowerS (h : Dig n) (k : ∀ t' k, Q (.str (nmS n) t') { s with toks := k }) : wpAny (model prog w) A (call (.builtin "str.lower") [.str (nmS n) t]) Q E s :=
  KXw.lower (lowS h) (by rw [lowS h]; exact lenS h) k
theorem lowerU (h : Dig n) (k : ∀ t' k, Q (.str (nmS n) t') { s with toks := k }) : wpAny (model prog w) A (call (.builtin "str.lower") [.str (nmU n) t]) Q E s :=
  KXw.lower (lowU h) (by rw [lowU h]; exact lenS h) k
end
/-- the end of a turn -/
def TurnEnd (h₀ : Heap) (L : Addr) (s : Shared) (I : Addr) (oE oI : Obj) (J : (Str → Option Value) → Led → Prop) (Q : Flow → Shared → Prop) (f : Flow) (s₄ : Shared) : Prop := match f with
  | .next => ∃ h' tk' m' news', s₄ = { s with heap := h', toks := tk' } ∧ Fr h₀ L h' m' ∧ News h₀ L h' ((I + 1, oE) :: (I, oI) :: news') ∧ (∀ p ∈ news', p.1 ≠ I ∧ p.1 ≠ I + 1) ∧ J m' news'
  | .ret r => Q (.ret r) s₄
  | _ => False
theorem TurnEnd.of {h₀ : Heap} {L : Addr} {s : Shared} {I : Addr} {oE oI : Obj} {J : (Str → Option Value) → Led → Prop} {Q : Flow → Shared → Prop} {h' : Heap} {tk' : Nat} {m' : Str → Option Value} {all : Led} (news' : Led) (F : Fr h₀ L h' m') (N : News h₀ L h' all)
    (hs : ∀ p ∈ (I + 1, oE) :: (I, oI) :: news', p ∈ all) (off : ∀ p ∈ news', @LT.lt Nat _ p.1 I ∨ @LT.lt Nat _ (I + 1) p.1) (hJ : J m' news') : TurnEnd h₀ L s I oE oI J Q .next { s with heap := h', toks := tk' } :=
  ⟨h', tk', m', news', rfl, F, fun p hp => N p (hs p hp), fun p hp => (off p hp).elim (fun h => ⟨Nat.ne_of_lt h, Nat.ne_of_lt (Nat.lt_succ_of_lt h)⟩) fun h => ⟨Nat.ne_of_gt (Nat.lt_of_succ_lt h), Nat.ne_of_gt h⟩, hJ⟩
theorem TurnEnd.shape {h₀ : Heap} {L : Addr} {s : Shared} {I : Addr} {oE oI : Obj} {J : (Str → Option Value) → Led → Prop} {Q : Flow → Shared → Prop} {h' : Heap} {tk' : Nat} {m' : Str → Option Value} {nT nL : Addr × Obj} {rest : Led} (F : Fr h₀ L h' m') (N : News h₀ L h' (nT :: nL :: (I + 1, oE) :: (I, oI) :: rest))
    (off : ∀ p ∈ nT :: rest, @LT.lt Nat _ p.1 I ∨ @LT.lt Nat _ (I + 1) p.1) (hJ : J m' (nT :: rest)) : TurnEnd h₀ L s I oE oI J Q .next { s with heap := h', toks := tk' } :=
  TurnEnd.of (nT :: rest) F N (fun p hp => by
    simp only [List.mem_cons] at hp ⊢
    rcases hp with h | h | h | h
    · exact .inr (.inr (.inl h))
    · exact .inr (.inr (.inr (.inl h)))
    · exact .inl h
    · exact .inr (.inr (.inr (.inr h)))) off hJ
section
variable {prog : Program} {w : World} {A : Around} {E : Value → Shared → Prop}
/-- the turns of a for over enumerate of a list that stands in the base: an invariant over names and ledger -/
theorem enumB {elts : List Expr} {k : Nat} {pos : Pos} {body : List Stmt} {env : Env} {Q : Flow → Shared → Prop} {s : Shared} {h₀ : Heap} {l : Addr} {its : Array Value} {m : Str → Option Value} {news : Led} (hh : A.handled = none)
    (F : Fr h₀ env.locals s.heap m) (N : News h₀ env.locals s.heap news) (hl : h₀.IsList l its) (J : Addr → Nat → (Str → Option Value) → Led → Prop) (h0 : ∀ I : Addr, (∀ p ∈ news, @LT.lt Nat _ p.1 I) → J I 0 m news)
    (step : ∀ (i : Nat) x m₁ (news₁ : Led) h₁ tk₁ T t (I : Addr) oE oI, its[i]? = some x → IsTup h₁ T #[.int i t, x] → J I i m₁ news₁ → (∀ p ∈ news₁, p.1 ≠ I ∧ p.1 ≠ I + 1) → Fr h₀ env.locals h₁ m₁ → News h₀ env.locals h₁ ((I + 1, oE) :: (I, oI) :: news₁) →
      wpAny (model prog w) A (assign (.Tuple elts k pos) env (.ref T)) (fun _ s₃ => wpAny (model prog w) A (execs body env) (TurnEnd h₀ env.locals s I oE oI (J I (i + 1)) Q) E s₃) E { s with heap := h₁, toks := tk₁ })
    (done : ∀ I h' tk m' news', Fr h₀ env.locals h' m' → News h₀ env.locals h' news' → J I its.size m' news' → Q .next { s with heap := h', toks := tk }) :
    wpAny (model prog w) A (call (.type "enumerate") [.ref l]) (fun xv s₁ => wpAny (model prog w) A (pyIter xv) (fun it s₂ => TurnsAt prog w A h₀ env (.Tuple elts k pos) body Q E it s₂) E s₁) E s := by
  have hl' : s.heap.IsList l its := hl.at fun o e => F.keep _ _ e
  have hlt : l < s.heap.objs.size := by obtain ⟨_, e, _⟩ := hl'; exact Heap.lt_size e
  have hLs : env.locals < s.heap.objs.size := F.ns.lt
  have nw : ∀ b, s.heap.objs.size ≤ b → h₀.get? b = none := fun b hb => ktu_new F hb
  have hl0 : h₀.get? l ≠ none := by obtain ⟨o, e, _⟩ := hl; rw [e]; exact fun q => nomatch q
  refine call_enumerate_list hl' fun h' hE hI hsz hk => ?_
  refine wpAny_pyIter_enum hE ?_
  generalize hI0 : s.heap.objs.size = I at *
  have hN := N.grown hk
  have offN : ∀ p ∈ news, p.1 ≠ I ∧ p.1 ≠ I + 1 := fun p hp => by
    have := Heap.lt_size (N p hp).1
    rw [hI0] at this
    exact ⟨Nat.ne_of_lt this, Nat.ne_of_lt (Nat.lt_succ_of_lt this)⟩
  refine ⟨I + 1, _, _, _, _, _, _, m, news, fun i m₁ n₁ => J I i m₁ n₁, rfl, KTurns.ofWalksU (WalksT.enumerate hh (I + 1) I l (Nat.succ_ne_self _) (ktu_ne 1 hlt) (Nat.ne_of_lt hlt) its).toU, ?_, ?_, ?_, ⟨⟨_, hE⟩, hI, hl'.at fun o e => hk _ o e⟩, F.keeps hk, hN, h0 I (fun p hp => by have := Heap.lt_size (N p hp).1; rw [hI0] at this; exact this), ?_, ?_⟩
  · intro hm
    rcases List.mem_cons.mp hm with e | hm
    · exact absurd hLs (by rw [e]; exact Nat.not_lt.mpr (Nat.le_succ _))
    rcases List.mem_cons.mp hm with e | hm
    · exact absurd hLs (by rw [e]; exact Nat.lt_irrefl _)
    · rw [← List.mem_singleton.mp hm] at hl0
      exact hl0 (Heap.get?_none_of_le F.above)
  · intro b hb
    rcases List.mem_cons.mp hb with rfl | hb
    · exact nw _ (Nat.le_succ _)
    · rw [List.mem_singleton.mp hb]; exact nw _ (Nat.le_refl _)
  · intro p hp hm
    rcases List.mem_cons.mp hm with e | hm
    · exact (offN p hp).2 e
    · exact (offN p hp).1 (List.mem_singleton.mp hm)
  · rintro i v m₁ news₁ h₁ tk₁ own hi ⟨T, vals, rfl, ⟨t, x, hx, rfl⟩, hT⟩ hJ hoff hown hget hall hst F₁ N₁
    obtain ⟨⟨old, he⟩, ⟨oi, hoi, hic, hid⟩, _⟩ := hst
    have off1 : ∀ p ∈ news₁, p.1 ≠ I ∧ p.1 ≠ I + 1 := fun p hp => ⟨fun e => hoff p hp (by rw [e]; simp), fun e => hoff p hp (by rw [e]; simp)⟩
    have ownI := hall I (by simp) (nw I (Nat.le_refl _)) _ hoi
    have ownE := hall (I + 1) (by simp) (nw (I + 1) (Nat.le_succ _)) _ he
    have N₂ : News h₀ env.locals h₁ ((I + 1, _) :: (I, oi) :: news₁) := fun p hp => by
      rcases List.mem_cons.mp hp with rfl | hp
      · exact N₁ _ (List.mem_append_left _ ownE)
      · rcases List.mem_cons.mp hp with rfl | hp
        · exact N₁ _ (List.mem_append_left _ ownI)
        · exact N₁ _ (List.mem_append_right _ hp)
    refine wpAny_mono (step i x m₁ news₁ h₁ tk₁ T t I _ oi hx hT hJ off1 F₁ N₂) (fun _ s₃ h₃ => wpAny_mono h₃ (fun f s₄ h₄ => ?_) fun _ _ e => e) fun _ _ e => e
    cases f with
    | ret v => exact .ret h₄
    | brk => exact h₄.elim
    | cont => exact h₄.elim
    | next =>
      obtain ⟨h', tk', m', news', rfl, F', N', off', hJ'⟩ := h₄
      refine .next ⟨rfl, h', tk', m', news', rfl, F', fun p hp => ?_, fun p hp hm => ?_, hJ'⟩
      · rcases List.mem_append.mp hp with hp | hp
        · have hg := hget p hp
          have hf := hown p hp
          rcases List.mem_cons.mp hf with e | hf
          · have : p = (I + 1, _) := Prod.ext e (Option.some.inj ((e ▸ hg).symm.trans he))
            rw [this]; exact N' _ (.head _)
          rcases List.mem_cons.mp hf with e | hf
          · have : p = (I, oi) := Prod.ext e (Option.some.inj ((e ▸ hg).symm.trans hoi))
            rw [this]; exact N' _ (.tail _ (.head _))
          · have e := List.mem_singleton.mp hf
            have z := (N₁ p (List.mem_append_left _ hp)).2.2
            rw [e] at z
            exact absurd z hl0
        · exact N' _ (.tail _ (.tail _ hp))
      · rcases List.mem_cons.mp hm with e | hm
        · exact (off' p hp).2 e
        · exact (off' p hp).1 (List.mem_singleton.mp hm)
  · intro h₂ tk m' news' F' N' _ hJ
    exact done I h₂ tk m' news' F' N' hJ
end
local macro_rules | `(tactic| walk_at "eval Name") => `(tactic| (k_here; (refine' ldLoc ?F ?hx ?_); (case F => k_asm); (case hx => first | with_reducible assumption | exact (if_neg (by decide)).trans (by assumption) | exact (if_neg (by decide)).trans ((if_neg (by decide)).trans (by assumption)) | exact (if_neg (by decide)).trans ((if_neg (by decide)).trans ((if_neg (by decide)).trans (by assumption)))); k_whole))
section
local macro_rules | `(tactic| walk_at "pad") => `(tactic| fail "pad")
local macro_rules | `(tactic| walk_at "pad") => `(tactic| fail "pad")
local macro_rules | `(tactic| walk_at "pad") => `(tactic| fail "pad")
/-- a call whose arguments' objects are hidden below and stand in the ledger -/
def TelH (k : Nat) (w : World) (mean : ExcName → Option Value) (mg mb : Str → Option Value) (f : Addr) (vs : List Value) (hs : List Addr) (post : Value → Heap → Prop) (s : Shared) : Prop :=
  ∀ (dp un : Nat) (gd : Option (List Code)) (outs : List Env) (base : Heap) (Q E : Value → Shared → Prop),
    Below (AK dp un gd outs) base outs s.heap → (∀ env ∈ outs, ∀ a ∈ hs, env.frame ≠ some a) → (hd.heap_39 w.params).In s.heap → Top hd.view_39 lz mean mg mb s.heap →
    (hd.heap_39 w.params).In (hideAll s.heap hs) → Top hd.view_39 lz mean mg mb (hideAll s.heap hs) → dp + k < recursionLimit → un + 10 * k < cLine →
    (∀ r h' tk', (∀ b o, s.heap.get? b = some o → h'.get? b = some o) → post r h' → Q r { s with heap := h', toks := tk' }) →
    wpAny (model prg w) (AK dp un gd outs) (call (.ref f) vs []) Q E s
/-- below the hidden ones -/
theorem hidden {A : Around} {base g h : Heap} {outs : List Env} {L : Addr} {m : Str → Option Value} {led : Led} (B : Below A base outs g) (F : Fr g L h m) (hf : ∀ env ∈ outs, ∀ a ∈ led.map (·.1), env.frame ≠ some a) (hl : ∀ p ∈ led, g.get? p.1 = some p.2) :
    Below A (hideAll base (led.map (·.1))) outs (hideAll g (led.map (·.1))) ∧ Fr (hideAll g (led.map (·.1))) L h m ∧ News (hideAll g (led.map (·.1))) L h led := by
  have nL : g.get? L = none := Heap.get?_none_of_le F.above
  refine ⟨⟨B.stack, fun b o e => ?_, funFrames_hideAll (funFrames_base (fun b o e => of_hideAll _ e) B.frames) hf⟩, ⟨F.ns, fun b o e => F.keep b o (of_hideAll _ e), by rw [hideAll_size]; exact F.above⟩, fun p hp => ⟨F.keep _ _ (hl p hp), fun e => ?_, hideAll_none _ (List.mem_map_of_mem hp)⟩⟩
  · by_cases hb : b ∈ led.map (·.1)
    · rw [hideAll_none _ hb] at e; cases e
    · exact hideAll_get _ (B.stays _ _ (of_hideAll _ e)) hb
  · have := hl p hp
    rw [e, nL] at this
    cases this
theorem unhide {g h' : Heap} {L : Addr} {m : Str → Option Value} {led news : Led} (F : Fr (hideAll g (led.map (·.1))) L h' m) (N : News (hideAll g (led.map (·.1))) L h' news) (hs : ∀ p ∈ led, p ∈ news) (hl : ∀ p ∈ led, g.get? p.1 = some p.2) : ∀ b o, g.get? b = some o → h'.get? b = some o := by
  intro b o e
  by_cases hb : b ∈ led.map (·.1)
  · obtain ⟨p, hp, rfl⟩ := List.mem_map.mp hb
    rw [hl p hp] at e
    cases e
    exact (N p (hs p hp)).1
  · exact F.keep b o (hideAll_get _ e hb)
def tupO (a b : Value) : Obj := { cls := .type "tuple", data := .seq #[a, b] }
def TupR (way : Int) (ys : List Value) (objs : Led) (js : List Nat) : Prop := ys = objs.reverse.map (fun p => .ref p.1) ∧ Paired (fun o (j : Nat) => ∃ k w, o = tupO (.int j k) (.int way w)) (objs.reverse.map (·.2)) js
/-- what TupleComp.compare gives back -/
def cmpV (way : Int) : List Int → List Int → Int
  | x :: p, y :: q => if x < y then -way else if y < x then way else cmpV way p q
  | _, _ => 0
theorem cmpV_step {way : Int} {p q : List Int} {i : Nat} {a b : Int} (ha : p[i]? = some a) (hb : q[i]? = some b) : cmpV way (p.drop i) (q.drop i) = if a < b then -way else if b < a then way else cmpV way (p.drop (i + 1)) (q.drop (i + 1)) := by
  obtain ⟨h1, rfl⟩ := List.getElem?_eq_some_iff.mp ha
  obtain ⟨h2, rfl⟩ := List.getElem?_eq_some_iff.mp hb
  rw [List.drop_eq_getElem_cons h1, List.drop_eq_getElem_cons h2]
  rfl
theorem TupR.len {way : Int} {ys : List Value} {objs : Led} {js : List Nat} (h : TupR way ys objs js) : ys.length = js.length := by
  obtain ⟨rfl, hp⟩ := h
  have := hp.length
  simpa using this
theorem TupR.tup {way : Int} {ys : List Value} {tl : Led} {js : List Nat} (h : TupR way ys tl js) {p : Addr × Obj} (hp : p ∈ tl) : ∃ a b, p.2 = tupO a b := by
  obtain ⟨rfl, hq⟩ := h
  obtain ⟨i, hi⟩ := List.getElem?_of_mem (List.mem_reverse.mpr hp)
  obtain ⟨r, _, k, w, hr⟩ := paired_get hq (i := i) (a := p.2) (by rw [List.getElem?_map, hi]; rfl)
  exact ⟨_, _, hr⟩
theorem TupR.get {way : Int} {ys : List Value} {tl : Led} {n : Nat} (h : TupR way ys tl (List.range n)) {i : Nat} {v : Value} (hv : ys[i]? = some v) : ∃ T k w, v = .ref T ∧ (T, tupO (.int i k) (.int way w)) ∈ tl ∧ i < n := by
  obtain ⟨rfl, hp⟩ := h
  rw [List.getElem?_map] at hv
  cases e : tl.reverse[i]? with
  | none => rw [e] at hv; simp at hv
  | some p =>
    rw [e] at hv
    have hv' : Value.ref p.1 = v := by simpa using hv
    obtain ⟨j, hj, k, w, ho⟩ := paired_get hp (i := i) (a := p.2) (by rw [List.getElem?_map, e]; rfl)
    obtain ⟨hn, hj'⟩ := List.getElem?_eq_some_iff.mp hj
    have hij : j = i := by rw [← hj']; exact List.getElem_range hn
    subst hij
    have hm := List.mem_of_getElem? e
    refine ⟨p.1, k, w, hv'.symm, ?_, by simpa using hn⟩
    rw [← ho]
    exact List.mem_reverse.mp hm
theorem ints_nth : ∀ {vs : List Value} {ns : List Int}, IntsAre vs ns → ∀ {i : Nat}, i < ns.length → ∃ n t, vs[i]? = some (.int n t) ∧ ns[i]? = some n
  | _, _, .nil, _, h => nomatch h
  | _, _, .cons n t _, 0, _ => ⟨n, t, rfl, rfl⟩
  | _, _, .cons _ _ r, i + 1, h => by
    obtain ⟨n, t, e, hn⟩ := ints_nth r (i := i) (Nat.lt_of_succ_lt_succ h)
    exact ⟨n, t, e, hn⟩
local macro_rules | `(tactic| walk_at "subscriptTail") => `(tactic| (k_here; (with_reducible show wpAny _ _ (subscriptTail _ _ (Value.ref _) (Value.int _ _)) _ _ _); (with_unfolding_all refine' item_listR ?hl ?h0 ?hf ?hx ?_ ?hs); (case hl => is_list); (case h0 => exact Int.natCast_nonneg _); (case hf => assumption); (case hx => with_reducible assumption); (case hs => with_unfolding_all rfl); k_whole))
theorem compG (w : World) (mean : ExcName → Option Value) (mg mb : Str → Option Value) (s : Shared) (x d c l r : Addr) (way : Int) (tk : Tok) (n z : Nat) (ys lv rv : List Value) (p q : List Int) (tl led : Led)
    (hled : led = (x, instObj 76 d) :: (d, dictOf [{ hash := PyData.keyHash w.params (Str.ofString "comp_select_list"), key := .str (Str.ofString "comp_select_list") tk, val := .ref c }] 1) :: (c, lstO ys z) :: tl) (htr : TupR way ys tl (List.range n)) (hn : n ≤ 5)
    (hL : ∀ p ∈ led, s.heap.get? p.1 = some p.2) (hl : s.heap.IsList l lv.toArray) (hr : s.heap.IsList r rv.toArray) (hi : IntsAre lv p) (hj : IntsAre rv q) (hp : p.length = n) (hq : q.length = n) (nl : l ∉ led.map (·.1)) (nr : r ∉ led.map (·.1)) :
    TelH 10 w mean mg mb 73 [.ref x, .ref l, .ref r] (led.map (·.1)) (fun v _ => ∃ t, v = .int (cmpV way p q) t) s := by
  unfold TelH
  intro dp un gd outs base Q E B hfr X T XH TH hdp hu hret
  ktn_open
  intro g L' h₁ hg F₀ N₀ B₀ X₀ T₀
  subst hg
  obtain ⟨B', F', N'⟩ := hidden (led := led) B₀ F₀ hfr hL
  have ll' : (hideAll s.heap (led.map (·.1))).IsList l lv.toArray := hl.at fun o e => hideAll_get _ e nl
  have lr' : (hideAll s.heap (led.map (·.1))).IsList r rv.toArray := hr.at fun o e => hideAll_get _ e nr
  have un' := fun (h' : Heap) (m : Str → Option Value) (news : Led) (F : Fr (hideAll s.heap (led.map (·.1))) L' h' m) (N : News (hideAll s.heap (led.map (·.1))) L' h' news) (hs : ∀ p ∈ led, p ∈ news) => unhide F N hs hL
  generalize hG : hideAll s.heap (led.map (·.1)) = G at B' F' N' ll' lr' XH TH un'
  clear hG hl hr nl nr hL X T X₀ T₀ B₀ F₀ N₀ B hfr
  try dsimp only
  try k_fold
  repeat ((fail_if_success (with_reducible show wpAny _ _ (exec (Stmt.For _ _ _ _ _) _) _ _ _)); first | walk1 | (dsimp only; walk1))
  refine forT (L := L') (h₀ := G) rfl (fun _ _ _ _ _ _ _ h1 h2 => let_list h1 h2) ?_
  have N2 := N'
  rw [hled] at N2
  iterate 3 walk1
  refine ⟨c, ys.toArray, _, led, fun i m news => news = led ∧ m (Str.ofString "left") = some (.ref l) ∧ m (Str.ofString "right") = some (.ref r) ∧ cmpV way p q = cmpV way (p.drop i) (q.drop i), rfl, by k_asm, by k_asm, ⟨rfl, rfl, rfl, rfl⟩, ?_, ?_, ?_⟩
  · rintro i h m news F N ⟨rfl, _⟩
    subst hled
    exact ⟨_, (N _ (.tail _ (.tail _ (.head _)))).1, rfl, _, rfl⟩
  · rintro i v m₂ news I oI s₂ hv F N ⟨rfl, hml, hmr, he⟩ hoff ⟨xs, hxs⟩ hg1 hd1 ho1
    obtain ⟨T1, k1, w1, rfl, hT1, hin⟩ := htr.get (i := i) (v := v) (by simpa using hv)
    obtain ⟨a, ta, hva, hpa⟩ := ints_nth hi (i := i) (by omega)
    obtain ⟨b, tb, hvb, hqb⟩ := ints_nth hj (i := i) (by omega)
    have hT2 : (T1, tupO (.int i k1) (.int way w1)) ∈ news := by rw [hled]; exact .tail _ (.tail _ (.tail _ hT1))
    have hva' : lv.toArray[Int.toNat (i : Int)]? = some (.int a ta) := by simpa using hva
    have hvb' : rv.toArray[Int.toNat (i : Int)]? = some (.int b tb) := by simpa using hvb
    have hst := cmpV_step (way := way) hpa hqb
    rw [hst] at he
    clear hva hvb hpa hqb hst hv htr hi hj N2 N'
    have hit : IsTup s₂.heap T1 #[.int i k1, .int way w1] := ⟨_, (N _ (.tail _ hT2)).1, rfl, _, rfl⟩
    have hfit : (i : Int) < 2 ^ 63 := by omega
    have hub : ∀ q' ∈ news, q' ∈ (I, oI) :: news := fun q' hq' => .tail _ hq'
    obtain ⟨h2, g2, dr2, tk2, os2⟩ := s₂
    dsimp only at hg1 hd1 ho1
    subst hg1 hd1 ho1
    repeat' ((fail_if_success (with_reducible show ∃ h' tk' m' news', _)); first | (dsimp only; walk1) | walk1)
    · rename _ < _ => hab
      rw [if_pos hab] at he
      exact hret _ _ _ (un' _ _ _ (by assumption) (by assumption) hub) ⟨_, congrArg (fun y => Value.int y _) he.symm⟩
    · rename _ < _ => hba
      rename ¬ _ => hab
      rw [if_neg hab, if_pos hba] at he
      exact hret _ _ _ (un' _ _ _ (by assumption) (by assumption) hub) ⟨_, congrArg (fun y => Value.int y _) he.symm⟩
    · rename ¬ _ => hba
      rename ¬ a < b => hab
      rw [if_neg hab, if_neg hba] at he
      refine ⟨_, _, _, news, rfl, by assumption, by assumption, ⟨rfl, ?_, ?_, he⟩, hoff⟩
      · refine Eq.trans ?_ hml
        repeat rw [if_neg (by decide)]
      · refine Eq.trans ?_ hmr
        repeat rw [if_neg (by decide)]
  · rintro h' tk' m₂ news F N ⟨rfl, hml, hmr, he⟩
    have hys : ys.toArray.size = n := by rw [List.size_toArray, htr.len, List.length_range]
    rw [hys, List.drop_eq_nil_of_le (by omega), List.drop_eq_nil_of_le (by omega)] at he
    repeat' (first | (dsimp only; walk1) | walk1)
    exact hret _ _ _ (un' _ _ _ F N fun _ h => h) ⟨_, congrArg (fun y => Value.int y _) he.symm⟩
end
section
local macro_rules | `(tactic| walk_at "pad") => `(tactic| fail "pad")
local macro_rules | `(tactic| walk_at "pad") => `(tactic| fail "pad")
local macro_rules | `(tactic| walk_at "pad") => `(tactic| fail "pad")
def IsNm (k : Str) (x : Int) : Prop := k = nmS x ∨ k = nmU x
def hdO (k : Str) (a : Tok) (v : Str) (b : Tok) : Obj := { cls := .type "tuple", data := .seq #[.str k a, .str v b] }
/-- the table's rows: the i-th one of a name that tells D i -/
def HdR (D : Nat → Int) (ys : List Value) (tl : Led) (n : Nat) : Prop := ys = tl.reverse.map (fun p => .ref p.1) ∧ Paired (fun o (j : Nat) => Dig (D j) ∧ ∃ k a b, IsNm k (D j) ∧ o = hdO k a (dg j) b) (tl.reverse.map (·.2)) (List.range n)
theorem HdR.nil {D : Nat → Int} : HdR D [] [] 0 := ⟨rfl, .nil⟩
theorem HdR.snoc {D : Nat → Int} {ys : List Value} {tl : Led} {n : Nat} {T : Addr} {k : Str} {a b : Tok} (h : HdR D ys tl n) (hd : Dig (D n)) (hk : IsNm k (D n)) : HdR D (ys ++ [.ref T]) ((T, hdO k a (dg n) b) :: tl) (n + 1) := by
  obtain ⟨rfl, hp⟩ := h
  refine ⟨by simp, ?_⟩
  have : ((T, hdO k a (dg n) b) :: tl).reverse.map (·.2) = tl.reverse.map (·.2) ++ [hdO k a (dg n) b] := by simp
  rw [this, List.range_succ]
  exact hp.snoc ⟨hd, _, _, _, hk, rfl⟩
theorem HdR.len {D : Nat → Int} {ys : List Value} {tl : Led} {n : Nat} (h : HdR D ys tl n) : ys.length = n := by
  obtain ⟨rfl, hp⟩ := h
  have := hp.length
  simpa using this
theorem HdR.get {D : Nat → Int} {ys : List Value} {tl : Led} {n : Nat} (h : HdR D ys tl n) {i : Nat} {v : Value} (hv : ys[i]? = some v) : ∃ T k a b, v = .ref T ∧ (T, hdO k a (dg i) b) ∈ tl ∧ i < n ∧ IsNm k (D i) ∧ Dig (D i) := by
  obtain ⟨rfl, hp⟩ := h
  rw [List.getElem?_map] at hv
  cases e : tl.reverse[i]? with
  | none => rw [e] at hv; simp at hv
  | some p =>
    rw [e] at hv
    have hv' : Value.ref p.1 = v := by simpa using hv
    obtain ⟨j, hj, hd, k, a, b, hk, ho⟩ := paired_get hp (i := i) (a := p.2) (by rw [List.getElem?_map, e]; rfl)
    obtain ⟨hn, hj'⟩ := List.getElem?_eq_some_iff.mp hj
    have hij : j = i := by rw [← hj']; exact List.getElem_range hn
    subst hij
    have hm := List.mem_of_getElem? e
    refine ⟨p.1, k, a, b, hv'.symm, ?_, by simpa using hn, hk, hd⟩
    rw [← ho]
    exact List.mem_reverse.mp hm
theorem lowerK {prog : Program} {w : World} {A : Around} {E : Value → Shared → Prop} {s : Shared} {Q : Value → Shared → Prop} {k : Str} {n : Int} {t : Tok} (hk : IsNm k n) (h : Dig n) (c : ∀ t' k', Q (.str (nmS n) t') { s with toks := k' }) : wpAny (model prog w) A (call (.builtin "str.lower") [.str k t]) Q E s := by
  rcases hk with rfl | rfl
  · exact lowerS h c
  · exact lowerU h c
abbrev bnG (a b c : Value) : List (Str × Value) := [(Str.ofString "self", a), (Str.ofString "name", b), (Str.ofString "default", c)]
local macro_rules | `(tactic| ktn_open) => `(tactic| (
  refine wpAny_call ?_
  k_dflt (refine' enterK (binds := bnG _ _ _) ?k1 ?k3 ?k5 ?k6 ?k7 ?k8 ?k9 ?kB ?_ ?c5 ?c2 ?c3 ?c4; (case k1 => assumption); (case k3 => assumption); (case k5 => assumption); (case k6 => k_is); (case k7 => k_is); (case k8 => ktr_room); (case k9 => first | exact BindsTo.of_eq rfl | exact binds_K (by assumption) rfl (by k_is) rfl rfl (by rfl)); (case c5 => decide); (case kB => exact locs rfl); (case c2 => exact rfl); (case c3 => exact rfl); (case c4 => exact rfl))))
theorem convN {w : World} {mean : ExcName → Option Value} {mg mb : Str → Option Value} {x : Str} {t : Tok} {self : Addr} {s : Shared} {dp un : Nat} {gd : Option (List Code)} {cn : Str} {cs : Scope} {a : Addr} {ccd : Value} {cl : List (Str × Addr)} {outer : List Env} {A₀ : Around} {base h₀ : Heap} {L : Addr} {m : Str → Option Value} {news : Led}
    {Q E : Value → Shared → Prop} (hs : scan codeN x = true) (B : Below A₀ base outer h₀) (F : Fr h₀ L s.heap m) (X : (hd.heap_39 w.params).In h₀) (N : News h₀ L s.heap news) (T : Top hd.view_39 lz mean mg mb h₀) (hk : cs.kind = .function) (hdp : dp + 3 < recursionLimit) (hu : un + 10 * 3 < cLine)
    (ret : ∀ h' tk', Fr h₀ L h' m → News h₀ L h' news → Q (.str x t) { s with heap := h', toks := tk' }) :
    wpAny (model prg w) (ktrTop dp un gd cn cs L a ccd cl outer) (call (.ref 112) [.ref self, .str x t] [(Str.ofString "name", (.bool true))]) Q E s :=
  (conv w mean mg mb s x t true self hs).use B F X N T hk hdp hu fun r h' tk' e F' N' => e ▸ ret h' tk' F' N'
local macro_rules | `(tactic| walk_at "call ref") => `(tactic| (k_here; (with_reducible show wpAny _ _ (call (Value.ref 112) _ _) _ _ _); (k_dflt (refine' convN ?h1 ?k1 ?k2 ?k3 ?k4 ?k5 ?k6 ?k7 ?k8 ?_)); (case h1 => first | exact scanS (by assumption) | exact scanU (by assumption)); (case k1 => k_asm); (case k2 => k_asm); (case k3 => k_asm); (case k4 => k_asm); (case k5 => k_asm); (case k6 => exact rfl); (case k7 => ktr_room); (case k8 => ktr_units); k_whole; intro h' tk' F' N'; (try dsimp only); (try k_fold)))
local macro_rules | `(tactic| walk_at "call builtin:str.lower") => `(tactic| (k_here; (with_reducible refine lowerK (by assumption) (by assumption) ?_); intro t' k'))
theorem getG (w : World) (mean : ExcName → Option Value) (mg mb : Str → Option Value) (s : Shared) (x d H : Addr) (th : Tok) (n z : Nat) (D : Nat → Int) (ys : List Value) (tl led : Led) (k0 : Str) (t0 : Tok) (x0 : Int)
    (hled : led = (H, lstO ys z) :: (x, instObj 213 d) :: (d, dictOf [{ hash := PyData.keyHash w.params (Str.ofString "_headers"), key := .str (Str.ofString "_headers") th, val := .ref H }] 1) :: tl) (htr : HdR D ys tl n) (hk0 : IsNm k0 x0) (hx0 : Dig x0)
    (hL : ∀ p ∈ led, s.heap.get? p.1 = some p.2) :
    TelH 10 w mean mg mb 160 [.ref x, .str k0 t0] (led.map (·.1)) (fun v _ => (v = .none ∧ ∀ j, j < n → D j ≠ x0) ∨ ∃ j t, j < n ∧ D j = x0 ∧ v = .str (dg j) t) s := by
  unfold TelH
  intro dp un gd outs base Q E B hfr X T XH TH hdp hu hret
  ktn_open
  intro g L' h₁ hg F₀ N₀ B₀ X₀ T₀
  subst hg
  obtain ⟨B', F', N'⟩ := hidden (led := led) B₀ F₀ hfr hL
  have un' := fun (h' : Heap) (m : Str → Option Value) (news : Led) (F : Fr (hideAll s.heap (led.map (·.1))) L' h' m) (N : News (hideAll s.heap (led.map (·.1))) L' h' news) (hs : ∀ p ∈ led, p ∈ news) => unhide F N hs hL
  generalize hG : hideAll s.heap (led.map (·.1)) = G at B' F' N' XH TH un'
  generalize hideAll base (led.map (·.1)) = base' at B'
  clear hG hL X T X₀ T₀ B₀ F₀ N₀ B hfr
  subst hled
  try dsimp only
  try k_fold
  repeat ((fail_if_success (with_reducible show wpAny _ _ (exec (Stmt.For _ _ _ _ _) _) _ _ _)); first | walk1 | (dsimp only; walk1))
  refine forT (L := L') (h₀ := G) rfl (fun _ _ _ _ _ _ _ h1 h2 => let_list h1 h2) ?_
  iterate 3 walk1
  refine ⟨H, ys.toArray, _, _, fun i m news => news = (H, lstO ys z) :: (x, instObj 213 d) :: (d, dictOf [{ hash := PyData.keyHash w.params (Str.ofString "_headers"), key := .str (Str.ofString "_headers") th, val := .ref H }] 1) :: tl ∧ (∃ t, m (Str.ofString "name") = some (.str (nmS x0) t)) ∧ m (Str.ofString "default") = some .none ∧ ∀ j, j < i → D j ≠ x0, rfl, by k_asm, by k_asm, ⟨rfl, ⟨_, if_pos rfl⟩, ?_, fun j hj => absurd hj (Nat.not_lt_zero _)⟩, ?_, ?_, ?_⟩
  · exact (if_neg (by decide)).trans rfl
  · rintro i h m news F N ⟨rfl, _⟩
    exact ⟨_, (N _ (.head _)).1, rfl, _, rfl⟩
  · rintro i v m₂ news I oI s₂ hv F N ⟨rfl, ⟨tn, hmn⟩, hmd, hne⟩ hoff ⟨xs, hxs⟩ hg1 hd1 ho1
    obtain ⟨T1, k1, a1, b1, rfl, hT1, hin, hk1, hd1'⟩ := htr.get (i := i) (v := v) (by simpa using hv)
    have hT2 : (T1, hdO k1 a1 (dg i) b1) ∈ (H, lstO ys z) :: (x, instObj 213 d) :: (d, dictOf [{ hash := PyData.keyHash w.params (Str.ofString "_headers"), key := .str (Str.ofString "_headers") th, val := .ref H }] 1) :: tl := .tail _ (.tail _ (.tail _ hT1))
    clear hv htr
    have hit : IsTup s₂.heap T1 #[.str k1 a1, .str (dg i) b1] := ⟨_, (N _ (.tail _ hT2)).1, rfl, _, rfl⟩
    obtain ⟨h2, g2, dr2, tk2, os2⟩ := s₂
    dsimp only at hg1 hd1 ho1
    subst hg1 hd1 ho1
    repeat' ((fail_if_success (with_reducible show ∃ h' tk' m' news', _)); first | (dsimp only; walk1) | walk1)
    · rename (BEq.beq _ _) = true => hq
      exact hret _ _ _ (un' _ _ _ (by assumption) (by assumption) fun _ h => .tail _ h) (Or.inr ⟨i, _, hin, (injS hd1' hx0).mp (eq_of_beq hq), rfl⟩)
    · rename (BEq.beq _ _) = false => hq
      refine ⟨_, _, _, _, rfl, by assumption, by assumption, ⟨rfl, ⟨tn, ?_⟩, ?_, fun j hj => ?_⟩, hoff⟩
      · refine Eq.trans ?_ hmn
        repeat rw [if_neg (by decide)]
      · refine Eq.trans ?_ hmd
        repeat rw [if_neg (by decide)]
      · by_cases e : j = i
        · subst e
          intro e2
          rw [e2] at hq
          simp at hq
        · exact hne j (by omega)
  · rintro h' tk' m₂ news F N ⟨rfl, ⟨tn, hmn⟩, hmd, hne⟩
    have hys : ys.toArray.size = n := by rw [List.size_toArray, htr.len]
    rw [hys] at hne
    repeat' (first | (dsimp only; walk1) | walk1)
    exact hret _ _ _ (un' _ _ _ F N fun _ h => h) (Or.inl ⟨rfl, hne⟩)
end
section
def pre (i : Nat) : Str := if i % 2 = 0 then Str.ofString "stop-" else Str.ofString "STOP-"
theorem par_get (i : Nat) (t1 t2 : Tok) : (#[Value.str (Str.ofString "stop-") t1, Value.str (Str.ofString "STOP-") t2] : Array Value)[Int.toNat (Int.fmod (i : Int) 2)]? = some (.str (pre i) (if i % 2 = 0 then t1 else t2)) := by
  have e : Int.fmod (i : Int) 2 = ((i % 2 : Nat) : Int) := by rw [Int.fmod_eq_emod_of_nonneg _ (by decide)]; rfl
  rw [e, Int.toNat_natCast]
  unfold pre
  rcases Nat.mod_two_eq_zero_or_one i with h | h <;> rw [h] <;> rfl
theorem par_nn (i : Nat) : 0 ≤ Int.fmod (i : Int) 2 := Int.fmod_nonneg_of_pos _ (by decide)
theorem par_lt (i : Nat) : Int.fmod (i : Int) 2 < 2 ^ 63 := Int.lt_trans (Int.fmod_lt_of_pos _ (by decide)) (by decide)
theorem scanK {k : Str} {x : Int} (h : IsNm k x) (hx : Dig x) : scan codeN k = true := by
  rcases h with rfl | rfl
  · exact scanS hx
  · exact scanU hx
theorem scanD {x : Int} (h : Dig x) : scan codeV (dg x) = true := by
  rcases h with rfl | rfl | rfl | rfl | rfl <;> decide +kernel
theorem dgInj {x y : Int} (h : Dig x) (hy : Dig y) (e : dg x = dg y) : x = y := by
  revert e
  rcases h with rfl | rfl | rfl | rfl | rfl <;> rcases hy with rfl | rfl | rfl | rfl | rfl <;> decide +kernel
theorem addK {prog : Program} {w : World} {A : Around} {E : Value → Shared → Prop} {s : Shared} {Q : Value → Shared → Prop} {i : Nat} {n : Int} {t u : Tok} (h : Dig n) (k : ∀ k0 t' c, IsNm k0 n → Q (.str k0 t') { s with toks := c }) : wpAny (model prog w) A (binaryOp .Add (.str (pre i) t) (.str (dg n) u)) Q E s := by
  unfold pre
  split
  · exact addS h fun t' c => k _ t' c (.inl rfl)
  · exact addU h fun t' c => k _ t' c (.inr rfl)
theorem convV {w : World} {mean : ExcName → Option Value} {mg mb : Str → Option Value} {x : Str} {t : Tok} {self : Addr} {s : Shared} {dp un : Nat} {gd : Option (List Code)} {cn : Str} {cs : Scope} {a : Addr} {ccd : Value} {cl : List (Str × Addr)} {outer : List Env} {A₀ : Around} {base h₀ : Heap} {L : Addr} {m : Str → Option Value} {news : Led}
    {Q E : Value → Shared → Prop} (hs : scan codeV x = true) (B : Below A₀ base outer h₀) (F : Fr h₀ L s.heap m) (X : (hd.heap_39 w.params).In h₀) (N : News h₀ L s.heap news) (T : Top hd.view_39 lz mean mg mb h₀) (hk : cs.kind = .function) (hdp : dp + 3 < recursionLimit) (hu : un + 10 * 3 < cLine)
    (ret : ∀ h' tk', Fr h₀ L h' m → News h₀ L h' news → Q (.str x t) { s with heap := h', toks := tk' }) :
    wpAny (model prg w) (ktrTop dp un gd cn cs L a ccd cl outer) (call (.ref 112) [.ref self, .str x t] [(Str.ofString "name", (.bool false))]) Q E s :=
  (conv w mean mg mb s x t false self hs).use B F X N T hk hdp hu fun r h' tk' e F' N' => e ▸ ret h' tk' F' N'
/-- Headers.get from a frame of a def -/
theorem getN {w : World} {mean : ExcName → Option Value} {mg mb : Str → Option Value} {s : Shared} {dp un : Nat} {gd : Option (List Code)} {cn : Str} {cs : Scope} {a : Addr} {ccd : Value} {cl : List (Str × Addr)} {outer : List Env} {A₀ : Around} {base h₀ : Heap} {L : Addr} {m : Str → Option Value} {news : Led}
    {Q E : Value → Shared → Prop} {x d H : Addr} {th : Tok} {n z : Nat} {D : Nat → Int} {ys : List Value} {tl : Led} {k0 : Str} {t0 : Tok} {x0 : Int}
    (B : Below A₀ base outer h₀) (F : Fr h₀ L s.heap m) (X : (hd.heap_39 w.params).In h₀) (N : News h₀ L s.heap news) (T : Top hd.view_39 lz mean mg mb h₀)
    (htr : HdR D ys tl n) (hk0 : IsNm k0 x0) (hx0 : Dig x0) (hX : (x, instObj 213 d) ∈ news) (hD : (d, dictOf [{ hash := PyData.keyHash w.params (Str.ofString "_headers"), key := .str (Str.ofString "_headers") th, val := .ref H }] 1) ∈ news) (hH : (H, PySem.W.listOf ys.toArray z) ∈ news) (ht : ∀ p ∈ tl, p ∈ news)
    (hk : cs.kind = .function) (hdp : dp + 10 < recursionLimit) (hu : un + 10 * 10 < cLine)
    (r1 : ∀ h' tk', (∀ j, j < n → D j ≠ x0) → Fr h₀ L h' m → News h₀ L h' news → Q .none { s with heap := h', toks := tk' })
    (r2 : ∀ h' tk' j t, j < n → D j = x0 → Fr h₀ L h' m → News h₀ L h' news → Q (.str (dg j) t) { s with heap := h', toks := tk' }) :
    wpAny (model prg w) (ktrTop dp un gd cn cs L a ccd cl outer) (call (.ref 160) [.ref x, .str k0 t0] []) Q E s := by
  have P := pushX (env := envX cn cs L a ccd cl) B F rfl hk
  have hs : ∀ p ∈ (H, lstO ys z) :: (x, instObj 213 d) :: (d, dictOf [{ hash := PyData.keyHash w.params (Str.ofString "_headers"), key := .str (Str.ofString "_headers") th, val := .ref H }] 1) :: tl, p ∈ news := fun p hp => by
    rcases List.mem_cons.mp hp with rfl | hp
    · exact hH
    rcases List.mem_cons.mp hp with rfl | hp
    · exact hX
    rcases List.mem_cons.mp hp with rfl | hp
    · exact hD
    · exact ht _ hp
  have C := getG w mean mg mb s x d H th n z D ys tl _ k0 t0 x0 rfl htr hk0 hx0 fun p hp => (N p (hs p hp)).1
  generalize (H, lstO ys z) :: (x, instObj 213 d) :: (d, dictOf [{ hash := PyData.keyHash w.params (Str.ofString "_headers"), key := .str (Str.ofString "_headers") th, val := .ref H }] 1) :: tl = led at hs C
  have hh : ∀ b o, h₀.get? b = some o → (hideAll s.heap (led.map (·.1))).get? b = some o := fun b o e => hideAll_get _ (F.keep _ _ e) fun hm => by
    obtain ⟨p, hp, rfl⟩ := List.mem_map.mp hm
    rw [(N p (hs p hp)).2.2] at e
    cases e
  refine C dp un gd (envX cn cs L a ccd cl :: outer) base Q E ⟨rfl, P.stays, P.frames⟩ (fun env he b hb e => ?_) (X.keeps F.keep) (T.keeps F.keep) (X.keeps hh) (T.keeps hh) hdp hu fun r h' tk' st hp => ?_
  · obtain ⟨p, hp, rfl⟩ := List.mem_map.mp hb
    have z := N p (hs p hp)
    rcases List.mem_cons.mp he with rfl | he
    · have e' : some L = some p.1 := e
      exact z.2.1 (Option.some.inj e').symm
    · obtain ⟨o, ho, _⟩ := (B.frames.mem (List.mem_filterMap.mpr ⟨env, he, e⟩)).2
      rw [z.2.2] at ho
      cases ho
  · rcases hp with ⟨rfl, hp⟩ | ⟨j, t, hj, hd, rfl⟩
    · exact r1 h' tk' hp (F.grownK st) (N.grown st)
    · exact r2 h' tk' j t hj hd (F.grownK st) (N.grown st)
local macro_rules | `(tactic| walk_at "call ref") => `(tactic| (k_here; (with_reducible show wpAny _ _ (call (Value.ref 160) _ _) _ _ _); (k_dflt (refine' getN ?k1 ?k2 ?k3 ?k4 ?k5 ?a1 ?a2 ?a3 ?a4 ?a5 ?a6 ?a7 ?k6 ?k7 ?k8 ?r1 ?r2)); (case k1 => k_asm); (case k2 => k_asm); (case k3 => k_asm); (case k4 => k_asm); (case k5 => k_asm); (case a1 => assumption); (case a2 => assumption); (case a3 => assumption); (case a4 => k_dflt (k_mem)); (case a5 => k_dflt (k_mem)); (case a6 => k_dflt (k_mem)); (case a7 => k_dflt (intro _ hp'; repeat (first | exact hp' | refine List.Mem.tail _ ?_))); (case k6 => exact rfl); (case k7 => ktr_room); (case k8 => ktr_units); (case' r1 => (intro h' tk' hap' F' N'; (try dsimp only); (try k_fold))); (case' r2 => (intro h' tk' j' t' hj' hdj' F' N'; (try dsimp only); (try k_fold)))))
local macro_rules | `(tactic| walk_at "call ref") => `(tactic| (k_here; (with_reducible show wpAny _ _ (call (Value.ref 112) _ _) _ _ _); (k_dflt (first | (refine' convN ?h1 ?k1 ?k2 ?k3 ?k4 ?k5 ?k6 ?k7 ?k8 ?_; (case h1 => exact scanK (by assumption) (by assumption))) | (refine' convV ?h1 ?k1 ?k2 ?k3 ?k4 ?k5 ?k6 ?k7 ?k8 ?_; (case h1 => exact scanD (by assumption))))); (case k1 => k_asm); (case k2 => k_asm); (case k3 => k_asm); (case k4 => k_asm); (case k5 => k_asm); (case k6 => exact rfl); (case k7 => ktr_room); (case k8 => ktr_units); k_whole; intro h' tk' F' N'; (try dsimp only); (try k_fold)))
local macro_rules | `(tactic| walk_at "call type:str") => `(tactic| (k_here; (refine str_dig (by assumption) ?_); intro t' k'))
local macro_rules | `(tactic| walk_at "binaryOp Add str str") => `(tactic| (k_here; (refine addK (by assumption) ?_); intro k0' t' k' hk'))
local macro_rules | `(tactic| size_fits) => `(tactic| assumption)
local macro_rules | `(tactic| k_all) => `(tactic| ((show ∀ p ∈ _, Prod.fst p ≠ _); assumption))
local macro_rules | `(tactic| walk_at "subscriptTail") => `(tactic| (k_here; (with_reducible show wpAny _ _ (subscriptTail _ _ (Value.ref _) (Value.int _ _)) _ _ _); (first
  | (with_unfolding_all refine' item_listR ?hl ?h0 ?hf ?hx ?_ ?hs; (case hl => is_list); (case h0 => exact Int.natCast_nonneg _); (case hf => assumption); (case hx => with_reducible assumption); (case hs => with_unfolding_all rfl); k_whole)
  | (with_unfolding_all refine' item_listR ?hl ?h0 ?hf ?hx ?_ ?hs; (case hl => kmk_list); (case hx => exact par_get _ _ _); (case h0 => exact par_nn _); (case hf => exact par_lt _); (case hs => with_unfolding_all rfl); k_whole))))
local macro_rules | `(tactic| walk_at "exec For Tuple Call") => `(tactic| (k_here; (rename Fr _ _ _ _ => lF'); (with_unfolding_all refine' For_turns lF' ?_; k_whole)))
theorem not_apart {D : Nat → Int} {n a b : Nat} (hab : a < b) (hb : b < n) (e : D a = D b) : Value.bool false = .bool (decide ((List.range n).map D).Nodup) := by
  have : ¬ ((List.range n).map D).Nodup := fun h => by
    unfold List.Nodup at h
    rw [List.pairwise_map, List.pairwise_iff_getElem] at h
    exact h a b (by simp; omega) (by simp; omega) hab (by simpa using e)
  rw [decide_eq_false this]
/-- ahead of the i-th turn -/
def SumG (w : World) (ll : Addr) (D : Nat → Int) (I : Addr) (i : Nat) (m : Str → Option Value) (news : Led) : Prop :=
  ∃ (X d H : Addr) (th : Tok) (z : Nat) (ys : List Value) (tl : Led), m (Str.ofString "taken") = some (.ref X) ∧ m (Str.ofString "lands") = some (.ref ll) ∧ @LT.lt Nat _ d X ∧ @LT.lt Nat _ X H ∧ @LT.lt Nat _ H I ∧ (∀ p ∈ tl, p.1 ≠ H) ∧ (∀ a b, a < b → b < i → D a ≠ D b) ∧ HdR D ys tl i ∧
    news = (H, PySem.W.listOf ys.toArray z) :: (X, instObj 213 d) :: (d, dictOf [{ hash := PyData.keyHash w.params (Str.ofString "_headers"), key := .str (Str.ofString "_headers") th, val := .ref H }] 1) :: tl
theorem apart_nodup {D : Nat → Int} {n : Nat} (key : ∀ a b, a < b → b < n → D a ≠ D b) : ((List.range n).map D).Nodup := by
  unfold List.Nodup
  rw [List.pairwise_map, List.pairwise_iff_getElem]
  intro i j hi hj hij
  simp only [List.getElem_range]
  exact key i j hij (by simpa using hj)
theorem apNext {D : Nat → Int} {i : Nat} (h : ∀ a b, a < b → b < i → D a ≠ D b) (h2 : ∀ a, a < i → D a ≠ D i) : ∀ a b, a < b → b < i + 1 → D a ≠ D b := fun a b hab hb => by
  by_cases e : b = i
  · subst e; exact h2 a hab
  · exact h a b hab (by omega)
theorem ledEq {H : Addr} {ys : List Value} {v : Value} {z : Nat} {r : Led} : (H, PySem.W.listOf (ys.toArray.push v) z) :: r = (H, PySem.W.listOf (ys ++ [v]).toArray z) :: r := by rw [List.push_toArray]
theorem TurnEnd.shapeG {h₀ : Heap} {L : Addr} {s : Shared} {I : Addr} {oE oI : Obj} {J : (Str → Option Value) → Led → Prop} {Q : Flow → Shared → Prop} {h' : Heap} {tk' : Nat} {m' : Str → Option Value} {nL pX pD : Addr × Obj} {H T : Addr} {o0 oT oH : Obj} {tl : Led} (F : Fr h₀ L h' m') (N : News h₀ L h' ((T, oT) :: nL :: (I + 1, oE) :: (I, oI) :: (H, oH) :: pX :: pD :: tl))
    (off : ∀ p ∈ (H, o0) :: pX :: pD :: tl, p.1 ≠ I ∧ p.1 ≠ I + 1) (hT : @LT.lt Nat _ (I + 1) T) (hJ : J m' ((H, oH) :: pX :: pD :: (T, oT) :: tl)) : TurnEnd h₀ L s I oE oI J Q .next { s with heap := h', toks := tk' } := by
  refine ⟨h', tk', m', _, rfl, F, fun p hp => N p ?_, fun p hp => ?_, hJ⟩
  · simp only [List.mem_cons] at hp ⊢
    rcases hp with h | h | h | h | h | h | h <;> simp [h]
  · simp only [List.mem_cons] at hp
    have o1 := off (H, o0) (.head _)
    have o2 := off pX (.tail _ (.head _))
    have o3 := off pD (.tail _ (.tail _ (.head _)))
    rcases hp with rfl | rfl | rfl | rfl | h
    · exact o1
    · exact o2
    · exact o3
    · exact ⟨Nat.ne_of_gt (Nat.lt_of_succ_lt hT), Nat.ne_of_gt hT⟩
    · exact off p (.tail _ (.tail _ (.tail _ h)))
theorem apartC (w : World) (mean : ExcName → Option Value) (mg mb : Str → Option Value) (s : Shared) (l ll : Addr) (its lys : Array Value) (D : Nat → Int) (hl : s.heap.IsList l its) (hn : its.size ≤ 5) (hll : s.heap.IsList ll lys)
    (hd : ∀ i x, its[i]? = some x → ∃ (q : Int) (u : Tok) (a : Addr) (v : List Value) (g : List Int), x = .int q u ∧ lys[i]? = some (.ref a) ∧ s.heap.IsList a v.toArray ∧ IntsAre v g ∧ 0 ≤ q ∧ q < g.length ∧ g.length ≤ 5 ∧ g.getD q.toNat 0 = D i ∧ Dig (D i)) :
    Tel 40 w mean mg mb 236 [.ref l, .ref ll] [] (fun r _ => r = .bool (decide ((List.range its.size).map D).Nodup)) s := by
  unfold Tel
  intro dp un gd outs base Q E B X T hdp hu hret
  ktn_open
  intro g L' h₁ hg F' N' B' X' T'
  subst hg
  try dsimp only
  try k_fold
  repeat ((fail_if_success (with_reducible show wpAny _ _ (call (Value.type "enumerate") _ _) _ _ _)); first | (dsimp only; walk1) | walk1)
  rename Fr _ _ _ _ => F₁
  rename News _ _ _ _ => N₁
  refine' enumB ?hh ?F1 ?N1 ?hl1 (SumG w ll D) ?_ ?_ ?_
  (case hh => exact rfl)
  (case hl1 => exact hl)
  (case F1 => exact F₁)
  (case N1 => exact N₁)
  · intro I hI
    refine ⟨_, _, _, _, _, [], [], if_pos rfl, (if_neg (by decide)).trans rfl, ?_, ?_, hI _ (.head _), fun p hp => (nomatch hp), fun a b _ hb => absurd hb (Nat.not_lt_zero _), HdR.nil, rfl⟩
    · assumption
    · exact And.left (by assumption)
  · intro i x m₁ news₁ h₂ tk₂ Tp tt I oE oI hx hT hJ hoff F₂ N₂
    clear F₁ N₁
    have hi5 : i < 5 := by
      have := (Array.getElem?_eq_some_iff.mp hx).1
      omega
    obtain ⟨q, u, a, v, gl, rfl, hla, hlv, hiv, hq0, hq1, hg5, hgd, hdg⟩ := hd i x hx
    obtain ⟨X9, d9, H9, th, z, ys, tl, hm1, hm2, ho1, ho2, hoI, hHt, hap, htr, rfl⟩ := hJ
    have hla' : lys[Int.toNat (i : Int)]? = some (.ref a) := by simpa using hla
    have hdi : Dig (i : Int) := by unfold Dig; omega
    have hfit : (i : Int) < 2 ^ 63 := by omega
    have hsz : ys.toArray.size ≤ sizeLine := by rw [List.size_toArray, htr.len, sizeLine_eq]; omega
    rw [← hgd] at hdg
    clear hla hd hn
    have hc1 : @LT.lt Nat _ d9 I := Nat.lt_trans ho1 (Nat.lt_trans ho2 hoI)
    have hc2 : @LT.lt Nat _ X9 I := Nat.lt_trans ho2 hoI
    have hc3 : @LT.lt Nat _ H9 (I + 1) := Nat.lt_succ_of_lt hoI
    repeat' (first | (dsimp only; walk1) | walk1)
    all_goals
      first
      | (exfalso
         rename (bne _ _) = true => hq9
         simp at hq9
         done)
      | (rename (bne _ _) = true => hq9
         rename D _ = _ => hq8
         rename @LT.lt Nat _ _ i => hq7
         refine hret _ _ _ (fun b o e => Fr.keep (by assumption) b o e) ?_
         exact not_apart hq7 (Array.getElem?_eq_some_iff.mp hx).1 (hq8.trans hgd))
      | (exfalso
         rename (bne _ _) = false => hq9
         rename @LT.lt Nat _ _ i => hq7
         have e8 := bne_eq_false_iff_eq.mp hq9
         have e9 := dgInj (by unfold Dig; omega) hdi e8
         omega)
      | (rename Fr _ _ _ _ => F9
         rename News _ _ _ _ => N9
         rename IsNm _ _ => hk9
         have hap9 : ∀ j, j < i → D j ≠ D i := by rw [← hgd]; assumption
         rw [hgd] at hk9 hdg
         have nm3 : ∀ (nx : Str) (v1 v2 v3 : Option Value), nx ≠ Str.ofString "name" → nx ≠ Str.ofString "throw" → nx ≠ Str.ofString "stop" → (if nx = Str.ofString "name" then v1 else if nx = Str.ofString "throw" then v2 else if nx = Str.ofString "stop" then v3 else m₁ nx) = m₁ nx := fun nx v1 v2 v3 z1 z2 z3 => by rw [if_neg z1, if_neg z2, if_neg z3]
         refine TurnEnd.shapeG F9 N9 hoff (by omega) ⟨X9, d9, H9, th, _, ys ++ [_], _ :: tl, (nm3 _ _ _ _ (by decide) (by decide) (by decide)).trans hm1, (nm3 _ _ _ _ (by decide) (by decide) (by decide)).trans hm2, ho1, ho2, hoI, ?_, apNext hap hap9, htr.snoc hdg hk9, ledEq⟩
         exact List.forall_mem_cons.mpr ⟨neN (by dsimp only; omega), hHt⟩)
  · intro I h3 tk3 m3 news3 F3 N3 P3
    obtain ⟨_, _, _, _, _, _, _, _, _, _, _, _, _, hap, _⟩ := P3
    have hnd := apart_nodup hap
    repeat' (first | (dsimp only; walk1) | walk1)
    refine hret _ _ _ (fun b o e => Fr.keep F3 b o e) ?_
    exact congrArg Value.bool (decide_eq_true hnd).symm
end
/-! the sort's tree of questions, answered by numbers -/
def kW (n : Nat) (key : Nat → Int) {α : Type} : KasT α → (α → Prop) → Prop
  | .ret a, P => P a
  | .ask i j k, P => i < n ∧ j < n ∧ kW n key (k (decide (key i < key j))) P
theorem kW_bind {n : Nat} {key : Nat → Int} {α β : Type} {f : α → KasT β} {P : β → Prop} : ∀ (t : KasT α), kW n key t (fun a => kW n key (f a) P) → kW n key (t.bind f) P
  | .ret _, h => h
  | .ask _ _ k, h => ⟨h.1, h.2.1, kW_bind (k _) h.2.2⟩
theorem kW_mono {n : Nat} {key : Nat → Int} {α : Type} {P P' : α → Prop} (hp : ∀ a, P a → P' a) : ∀ (t : KasT α), kW n key t P → kW n key t P'
  | .ret a, h => hp a h
  | .ask _ _ k, h => ⟨h.1, h.2.1, kW_mono hp (k _) h.2.2⟩
theorem kW_wp {n : Nat} {key : Nat → Int} {α : Type} {P : α → Prop} {Q : α → Shared → Prop} {cmp : Nat → Nat → (Bool → Shared → Prop) → Shared → Prop} {s : Shared}
    (hc : ∀ i j (C : Bool → Shared → Prop), i < n → j < n → C (decide (key i < key j)) s → cmp i j C s) (hq : ∀ a, P a → Q a s) : ∀ (t : KasT α), kW n key t P → t.kasWp cmp Q s
  | .ret a, h => hq a h
  | .ask i j k, h => hc i j _ h.1 h.2.1 (kW_wp hc hq (k _) h.2.2)
section
variable {n : Nat} {key : Nat → Int}
def Pm (n : Nat) (p : Array Nat) : Prop := p.toList.Perm (List.range n)
theorem Pm.size {p : Array Nat} (h : Pm n p) : p.size = n := by have := List.Perm.length_eq h; simpa using this
theorem Pm.lt {p : Array Nat} (h : Pm n p) (hn : 0 < n) (i : Nat) : p.getD i 0 < n := by
  by_cases hi : i < p.size
  · have e : p.getD i 0 = p[i] := by simp [Array.getD, hi]
    rw [e]
    have hm : p[i] ∈ p.toList := by simp
    exact List.mem_range.mp ((List.Perm.mem_iff h).mp hm)
  · have e : p.getD i 0 = 0 := by simp [Array.getD, hi]
    rw [e]; exact hn
theorem Pm.rev {p : Array Nat} (h : Pm n p) (i j : Nat) : Pm n (kas_rev p i j) := (Array.perm_iff_toList_perm.mp (mirror_perm p i j _)).trans h
theorem Pm.bub {p : Array Nat} (h : Pm n p) (i j : Nat) : Pm n (bubble p i j) := (Array.perm_iff_toList_perm.mp (bubble_perm p i j)).trans h
def Ky (key : Nat → Int) (p : Array Nat) (i : Nat) : Int := key (p.getD i 0)
theorem Ky_congr {p p' : Array Nat} {i j : Nat} (h : p[i]? = p'[j]?) : Ky key p i = Ky key p' j := by
  unfold Ky; rw [Array.getD_eq_getD_getElem?, Array.getD_eq_getD_getElem?, h]
theorem Ky_rev {p : Array Nat} {i j : Nat} (hj : j ≤ p.size) (k : Nat) : Ky key (kas_rev p i j) k = if i ≤ k ∧ k < j then Ky key p (i + j - 1 - k) else Ky key p k := by
  have e := getElem?_mirror_all (i := i) hj k
  unfold kas_rev
  by_cases h : i ≤ k ∧ k < j
  · rw [if_pos h] at e ⊢; exact Ky_congr e
  · rw [if_neg h] at e ⊢; exact Ky_congr e
theorem Ky_rev_eq {p : Array Nat} {i j : Nat} (hj : j ≤ p.size) (heq : ∀ k, i ≤ k → k < j → Ky key p k = Ky key p (j - 1)) (k : Nat) : Ky key (kas_rev p i j) k = Ky key p k := by
  rw [Ky_rev hj]
  split
  · rw [heq _ (by omega) (by omega), heq k (by omega) (by omega)]
  · rfl
theorem Ky_bub {p : Array Nat} {src d : Nat} (hs : src < p.size) (hd : d ≤ src) (k : Nat) :
    Ky key (bubble p src d) k = if k = src - d then Ky key p src else if src - d < k ∧ k ≤ src then Ky key p (k - 1) else Ky key p k := by
  have e := getElem?_bubble hs d hd k
  by_cases h1 : k = src - d
  · rw [if_pos h1] at e ⊢; exact Ky_congr e
  · rw [if_neg h1] at e ⊢
    by_cases h2 : src - d < k ∧ k ≤ src
    · rw [if_pos h2] at e ⊢; exact Ky_congr e
    · rw [if_neg h2] at e ⊢; exact Ky_congr e
def Up (key : Nat → Int) (p : Array Nat) (k : Nat) : Prop := ∀ i j, i ≤ j → j < k → Ky key p i ≤ Ky key p j
def Dn (key : Nat → Int) (p : Array Nat) (k : Nat) : Prop := ∀ i j, i ≤ j → j < k → Ky key p j ≤ Ky key p i
theorem Up.succ {p : Array Nat} {k : Nat} (h : Up key p k) (hk : 1 ≤ k) (hx : Ky key p (k - 1) ≤ Ky key p k) : Up key p (k + 1) := fun i j hij hj => by
  by_cases e : j = k
  · subst e
    by_cases e2 : i = j
    · subst e2; exact Int.le_refl _
    · exact Int.le_trans (h i (j - 1) (by omega) (by omega)) hx
  · exact h i j hij (by omega)
theorem Dn.succ {p : Array Nat} {k : Nat} (h : Dn key p k) (hk : 1 ≤ k) (hx : Ky key p k ≤ Ky key p (k - 1)) : Dn key p (k + 1) := fun i j hij hj => by
  by_cases e : j = k
  · subst e
    by_cases e2 : i = j
    · subst e2; exact Int.le_refl _
    · exact Int.le_trans hx (h i (j - 1) (by omega) (by omega))
  · exact h i j hij (by omega)
theorem w_asc {p : Array Nat} (hp : Pm n p) (hn : 0 < n) : ∀ (f m : Nat), 1 ≤ m → Up key p m → kW n key (kas_asc p f m) (fun r => m ≤ r ∧ r ≤ m + f ∧ Up key p r ∧ (r = m + f ∨ Ky key p r < Ky key p (r - 1)))
  | 0, m, _, hu => ⟨Nat.le_refl _, Nat.le_refl _, hu, .inl rfl⟩
  | f + 1, m, hm, hu => by
    refine ⟨hp.lt hn _, hp.lt hn _, ?_⟩
    by_cases h : key (p.getD m 0) < key (p.getD (m - 1) 0)
    · (rw [decide_eq_true h]; dsimp only; rw [if_pos rfl])
      exact ⟨Nat.le_refl _, by omega, hu, .inr h⟩
    · (rw [decide_eq_false h]; dsimp only; rw [if_neg Bool.false_ne_true])
      refine kW_mono (fun r hr => ?_) _ (w_asc hp hn f (m + 1) (by omega) (hu.succ hm (Int.not_lt.mp h)))
      exact ⟨by omega, by omega, hr.2.2.1, hr.2.2.2.imp (fun e => by omega) id⟩
theorem w_desc (hn : 0 < n) : ∀ (f : Nat) (p : Array Nat) (m q : Nat), Pm n p → q + 1 ≤ m → m + f ≤ n → Dn key p m → (∀ k, m - (q + 1) ≤ k → k < m → Ky key p k = Ky key p (m - 1)) →
    kW n key (kas_desc f p m q) (fun r => Pm n r.1 ∧ m ≤ r.2.1 ∧ r.2.1 ≤ m + f ∧ r.2.2 + 1 ≤ r.2.1 ∧ Dn key r.1 r.2.1 ∧ ∀ k, r.2.1 - (r.2.2 + 1) ≤ k → k < r.2.1 → Ky key r.1 k = Ky key r.1 (r.2.1 - 1))
  | 0, p, m, q, hp, hq, _, hd, he => ⟨hp, Nat.le_refl _, Nat.le_refl _, hq, hd, he⟩
  | f + 1, p, m, q, hp, hq, hf, hd, he => by
    refine ⟨hp.lt hn _, hp.lt hn _, ?_⟩
    by_cases h : key (p.getD m 0) < key (p.getD (m - 1) 0)
    · (rw [decide_eq_true h]; dsimp only; rw [if_pos rfl])
      have fin : ∀ p' : Array Nat, Pm n p' → (∀ k, Ky key p' k = Ky key p k) → kW n key (kas_desc f p' (m + 1) 0) (fun r => Pm n r.1 ∧ m ≤ r.2.1 ∧ r.2.1 ≤ m + (f + 1) ∧ r.2.2 + 1 ≤ r.2.1 ∧ Dn key r.1 r.2.1 ∧ ∀ k, r.2.1 - (r.2.2 + 1) ≤ k → k < r.2.1 → Ky key r.1 k = Ky key r.1 (r.2.1 - 1)) := fun p' hp' e => by
        refine kW_mono (fun r hr => ?_) _ (w_desc hn f p' (m + 1) 0 hp' (by omega) (by omega) ?_ ?_)
        · exact ⟨hr.1, by omega, by omega, hr.2.2.2.1, hr.2.2.2.2⟩
        · intro i j hij hj
          rw [e, e]
          exact (hd.succ (by omega) (Int.le_of_lt h)) i j hij hj
        · intro k h1 h2
          rw [show k = m + 1 - 1 by omega]
      split
      · exact fin _ (hp.rev _ _) (Ky_rev_eq (by rw [hp.size]; omega) he)
      · exact fin _ hp fun _ => rfl
    · (rw [decide_eq_false h]; dsimp only; rw [if_neg Bool.false_ne_true])
      refine ⟨hp.lt hn _, hp.lt hn _, ?_⟩
      by_cases h2 : key (p.getD (m - 1) 0) < key (p.getD m 0)
      · (rw [decide_eq_true h2]; dsimp only; rw [if_pos rfl])
        exact ⟨hp, Nat.le_refl _, by show m ≤ _; omega, hq, hd, he⟩
      · (rw [decide_eq_false h2]; dsimp only; rw [if_neg Bool.false_ne_true])
        have e : Ky key p m = Ky key p (m - 1) := Int.le_antisymm (Int.not_lt.mp h2) (Int.not_lt.mp h)
        refine kW_mono (fun r hr => ?_) _ (w_desc hn f p (m + 1) (q + 1) hp (by omega) (by omega) (hd.succ (by omega) (Int.le_of_eq e)) fun k h1 h2 => ?_)
        · exact ⟨hr.1, by omega, by omega, hr.2.2.2.1, hr.2.2.2.2⟩
        · rw [Nat.add_sub_cancel, e]
          by_cases hk : k = m
          · rw [hk]; exact e
          · exact he k (by omega) (by omega)
theorem w_tail3 (hn : 0 < n) {p : Array Nat} {m : Nat} (hp : Pm n p) (hm : 1 ≤ m) (hmn : m ≤ n) (hd : Dn key p m) : kW n key (kas_tail3 m n p) (fun r => Pm n r.2 ∧ 1 ≤ r.1 ∧ r.1 ≤ n ∧ Up key r.2 r.1) := by
  unfold kas_tail3
  refine kW_bind _ (kW_mono (fun r hr => ?_) _ (w_asc (hp.rev 0 m) hn (n - m) m hm fun i j hij hj => ?_))
  · exact ⟨hp.rev 0 m, by show 1 ≤ r; omega, by show r ≤ n; omega, hr.2.2.1⟩
  · rw [Ky_rev (by rw [hp.size]; omega), Ky_rev (by rw [hp.size]; omega), if_pos (by omega), if_pos (by omega)]
    exact hd _ _ (by omega) (by omega)
theorem w_descPart (hn : 0 < n) {p : Array Nat} {m : Nat} (hp : Pm n p) (hm : 1 ≤ m) (hmn : m < n) (hd : Dn key p (m + 1)) : kW n key (kas_descPart m n p) (fun r => Pm n r.2 ∧ 1 ≤ r.1 ∧ r.1 ≤ n ∧ Up key r.2 r.1) := by
  unfold kas_descPart
  refine kW_bind _ (kW_mono (fun r hr => ?_) _ (w_desc hn (n - (m + 1)) p (m + 1) 0 hp (by omega) (by omega) hd fun k h1 h2 => by rw [show k = m + 1 - 1 by omega]))
  obtain ⟨h1, h2, h3, h4, h5, h6⟩ := hr
  split
  · refine w_tail3 hn (h1.rev _ _) (by omega) (by omega) fun i j hij hj => ?_
    rw [Ky_rev_eq (by rw [h1.size]; omega) h6, Ky_rev_eq (by rw [h1.size]; omega) h6]
    exact h5 i j hij hj
  · exact w_tail3 hn h1 (by omega) (by omega) h5
theorem w_count (hn : 0 < n) {p : Array Nat} (hp : Pm n p) : kW n key (kas_count n p) (fun r => Pm n r.2 ∧ 1 ≤ r.1 ∧ r.1 ≤ n ∧ Up key r.2 r.1) := by
  unfold kas_count
  refine kW_bind _ (kW_mono (fun m hm => ?_) _ (w_asc hp hn (n - 1) 1 (Nat.le_refl _) fun i j hij hj => by rw [show i = j by omega]; exact Int.le_refl _))
  obtain ⟨h1, h2, h3, h4⟩ := hm
  split
  · exact ⟨hp, h1, by show m ≤ n; omega, h3⟩
  · rename_i hne
    have hne' : m ≠ n := by simpa using hne
    have hlt : Ky key p m < Ky key p (m - 1) := h4.resolve_left (by omega)
    have hdn : (∀ k, k < m → Ky key p k = Ky key p (m - 1)) → Dn key p (m + 1) := fun he => by
      refine Dn.succ (fun i j hij hj => by rw [he i (by omega), he j (by omega)]; exact Int.le_refl _) h1 (Int.le_of_lt hlt)
    split
    · refine ⟨hp.lt hn _, hp.lt hn _, ?_⟩
      by_cases h : key (p.getD 0 0) < key (p.getD (m - 1) 0)
      · (rw [decide_eq_true h]; dsimp only; rw [if_pos rfl])
        exact ⟨hp, h1, by show m ≤ n; omega, h3⟩
      · (rw [decide_eq_false h]; dsimp only; rw [if_neg Bool.false_ne_true])
        have he : ∀ k, k < m → Ky key p k = Ky key p (m - 1) := fun k hk => by
          have a := h3 0 k (by omega) hk
          have b := h3 k (m - 1) (by omega) (by omega)
          have c : Ky key p (m - 1) ≤ Ky key p 0 := Int.not_lt.mp h
          omega
        refine w_descPart hn (hp.rev _ _) h1 (by omega) fun i j hij hj => ?_
        rw [Ky_rev_eq (by rw [hp.size]; omega) fun k _ hk => he k hk, Ky_rev_eq (by rw [hp.size]; omega) fun k _ hk => he k hk]
        exact hdn he i j hij hj
    · exact w_descPart hn hp h1 (by omega) (hdn fun k hk => by rw [show k = m - 1 by omega])
theorem w_place (hn : 0 < n) {p : Array Nat} {k : Nat} (hp : Pm n p) (hu : Up key p k) : ∀ (f l r : Nat), l ≤ r → r ≤ k → r - l ≤ f → (∀ i, i < l → Ky key p i ≤ Ky key p k) → (∀ i, r ≤ i → i < k → Ky key p k < Ky key p i) →
    kW n key (kas_place p k f l r) (fun x => x ≤ k ∧ (∀ i, i < x → Ky key p i ≤ Ky key p k) ∧ ∀ i, x ≤ i → i < k → Ky key p k < Ky key p i)
  | 0, l, r, hlr, hrk, hf, ha, hb => ⟨by omega, ha, fun i h1 h2 => hb i (by omega) h2⟩
  | f + 1, l, r, hlr, hrk, hf, ha, hb => by
    unfold kas_place
    split
    · exact ⟨by omega, ha, fun i h1 h2 => hb i (by omega) h2⟩
    · refine ⟨hp.lt hn _, hp.lt hn _, ?_⟩
      by_cases h : key (p.getD k 0) < key (p.getD ((l + r) / 2) 0)
      · (rw [decide_eq_true h]; dsimp only; rw [if_pos rfl])
        refine w_place hn hp hu f l ((l + r) / 2) (by omega) (by omega) (by omega) ha fun i h1 h2 => ?_
        exact Int.lt_of_lt_of_le h (hu _ _ h1 h2)
      · (rw [decide_eq_false h]; dsimp only; rw [if_neg Bool.false_ne_true])
        refine w_place hn hp hu f ((l + r) / 2 + 1) r (by omega) hrk (by omega) (fun i hi => ?_) hb
        exact Int.le_trans (hu i ((l + r) / 2) (by omega) (by omega)) (Int.not_lt.mp h)
theorem w_bin (hn : 0 < n) : ∀ (f : Nat) (p : Array Nat) (k : Nat), Pm n p → k + f = n → Up key p k → kW n key (kas_bin f p k) (fun r => Pm n r ∧ Up key r n)
  | 0, p, k, hp, hk, hu => by
    have : k = n := by omega
    subst this; exact ⟨hp, hu⟩
  | f + 1, p, k, hp, hk, hu => by
    unfold kas_bin
    refine kW_bind _ (kW_mono (fun l hl => ?_) _ (w_place hn hp hu k 0 k (by omega) (Nat.le_refl _) (by omega) (fun i hi => by omega) fun i h1 h2 => by omega))
    obtain ⟨h1, h2, h3⟩ := hl
    refine w_bin hn f _ (k + 1) (hp.bub _ _) (by omega) fun i j hij hj => ?_
    rw [Ky_bub (by rw [hp.size]; omega) (by omega), Ky_bub (by rw [hp.size]; omega) (by omega), show k - (k - l) = l by omega]
    by_cases c1 : i = l
    · by_cases c2 : j = l
      · rw [if_pos c1, if_pos c2]; exact Int.le_refl _
      · rw [if_pos c1, if_neg c2, if_pos (by omega)]
        exact Int.le_of_lt (h3 _ (by omega) (by omega))
    · rw [if_neg c1]
      by_cases c2 : j = l
      · rw [if_pos c2, if_neg (by omega)]
        exact h2 _ (by omega)
      · rw [if_neg c2]
        by_cases c3 : l < i ∧ i ≤ k
        · rw [if_pos c3, if_pos (by omega)]
          exact hu _ _ (by omega) (by omega)
        · rw [if_neg c3]
          by_cases c4 : l < j ∧ j ≤ k
          · rw [if_pos c4]
            exact hu _ _ (by omega) (by omega)
          · rw [if_neg c4]
            exact hu _ _ (by omega) (by omega)
theorem w_sort (hn : 0 < n) : kW n key (kas_sort n) (fun r => Pm n r ∧ Up key r n) := by
  unfold kas_sort
  refine kW_bind _ (kW_mono (fun r hr => ?_) _ (w_count hn (p := (List.range n).toArray) (by unfold Pm; simp)))
  obtain ⟨h1, h2, h3, h4⟩ := hr
  split
  · rw [show max r.1 1 = r.1 by omega]
    exact w_bin hn _ _ _ h1 (by omega) h4
  · have : r.1 = n := by omega
    rw [this] at h4
    exact ⟨h1, h4⟩
end
/-! two rows of ints, compared -/
def ltL : List Int → List Int → Bool
  | x :: xs, y :: ys => if x = y then ltL xs ys else decide (x < y)
  | _, _ => false
theorem ints_at {vs : Array Value} {ns : List Int} (h : IntsAre vs.toList ns) {i : Nat} (hi : i < vs.size) : ∃ n t, vs[i]? = some (.int n t) ∧ ns[i]? = some n := by
  have key : ∀ {vs : List Value} {ns : List Int}, IntsAre vs ns → ∀ {i : Nat}, i < vs.length → ∃ n t, vs[i]? = some (.int n t) ∧ ns[i]? = some n := by
    intro vs ns h
    induction h with
    | nil => intro i hi; simp at hi
    | cons n t _ ih =>
      intro i hi
      cases i with
      | zero => exact ⟨n, t, rfl, rfl⟩
      | succ i => simpa using ih (i := i) (by simpa using hi)
  obtain ⟨n, t, h1, h2⟩ := key h (i := i) (by simpa using hi)
  exact ⟨n, t, by rw [← h1]; simp, h2⟩
open PySem.AutoSeq1 PySem.MeetsSeq3 in
theorem lt_loop (l b : Addr) (items items2 : Array Value) (n n2 : Nat) (ns ms : List Int) (hI : IntsAre items.toList ns) (hJ : IntsAre items2.toList ms) (hsz : items.size = items2.size) (k : Nat) :
    ∀ i : Nat, items.size - i = k → Meets (Builtin.«list.__eq__.loop» ⟨[.ref l, .ref b, rawInt i, rawInt 0], []⟩)
      (fun _ R s => s.heap.get? l = some { cls := .type "list", dict := none, data := .seq items n, slots := #[] } ∧ s.heap.get? b = some { cls := .type "list", dict := none, data := .seq items2 n2, slots := #[] } ∧
        R (.ok (.ret (.bool (ltL (ns.drop i) (ms.drop i))))) s) := by
  have hn : ns.length = items.size := by have := hI.length; simpa using this.symm
  have hm : ms.length = items2.size := by have := hJ.length; simpa using this.symm
  induction k with
  | zero =>
    intro i hk prog w A R s h
    obtain ⟨hp, g, d, tk, os⟩ := s; obtain ⟨hl, hb, h⟩ := h
    wp_walk using wpAny_loadPart' hl, wpAny_loadPart' hb
    have hi1 : items[((i : Nat) : Int).toNat]? = none := by simp; omega
    have hi2 : items2[((i : Nat) : Int).toNat]? = none := by simp; omega
    have hd : ns.drop i = [] := List.drop_of_length_le (by omega)
    rw [hd] at h
    rw [hi1, hi2]
    wp_walk using wpAny_loadPart' hl, wpAny_loadPart' hb
    show R (.ok (.ret (.bool (decide (items.size < items2.size))))) _
    rw [hsz]
    simpa [ltL] using h
  | succ k ih =>
    intro i hk prog w A R s h
    obtain ⟨hp, g, d, tk, os⟩ := s; obtain ⟨hl, hb, h⟩ := h
    wp_walk using wpAny_loadPart' hl, wpAny_loadPart' hb
    obtain ⟨x, t, hx, hxn⟩ := ints_at hI (i := i) (by omega)
    obtain ⟨y, u, hy, hym⟩ := ints_at hJ (i := i) (by omega)
    have hi1 : items[((i : Nat) : Int).toNat]? = some (.int x t) := hx
    have hi2 : items2[((i : Nat) : Int).toNat]? = some (.int y u) := hy
    have hd1 : ns.drop i = x :: ns.drop (i + 1) := by
      obtain ⟨h1, h2⟩ := List.getElem?_eq_some_iff.mp hxn
      rw [List.drop_eq_getElem_cons h1, h2]
    have hd2 : ms.drop i = y :: ms.drop (i + 1) := by
      obtain ⟨h1, h2⟩ := List.getElem?_eq_some_iff.mp hym
      rw [List.drop_eq_getElem_cons h1, h2]
    have hc : ((i : Int) + 1) = ((i + 1 : Nat) : Int) := by push_cast; rfl
    rw [hd1, hd2] at h
    rw [hi1, hi2]
    refine wpAny_bind (PySem.SeqAt.EqAt.int_int x t y u prog w _ _ ?_)
    by_cases hxy : x = y
    · subst hxy
      rw [show (x == x) = true by simp]
      wp_walk
      rw [hc]
      refine ⟨plainId_quiet plain_eq_loop _, codeAny_builtin entry_eq_loop ?_⟩
      rw [Around.under_plainId plain_eq_loop _]
      exact ih (i + 1) (by omega) prog w A R _ ⟨hl, hb, by simpa [ltL] using h⟩
    · rw [show (x == y) = false by simpa using hxy]
      wp_walk using wpAny_loadPart' hl, wpAny_loadPart' hb
      rw [hi1, hi2]
      dsimp only
      refine wpAny_bind (show wpAny _ _ (compareOp .Lt (.int x t) (.int y u)) _ _ _ from lt_int ?_)
      refine wpAny_pure ?_
      simpa [ltL, hxy] using h

open PySem.AutoSeq1 PySem.MeetsSeq3 in
theorem lt_list (l b : Addr) (items items2 : Array Value) (n n2 : Nat) (ns ms : List Int) (hI : IntsAre items.toList ns) (hJ : IntsAre items2.toList ms) (hsz : items.size = items2.size) :
    Meets (Builtin.«list.__lt__» ⟨[.ref l, .ref b], []⟩)
      (fun _ R s => s.heap.get? l = some { cls := .type "list", dict := none, data := .seq items n, slots := #[] } ∧ s.heap.get? b = some { cls := .type "list", dict := none, data := .seq items2 n2, slots := #[] } ∧
        R (.ok (.ret (.bool (ltL ns ms)))) s) := by
  intro prog w A R s h
  obtain ⟨hp, g, d, tk, os⟩ := s; obtain ⟨hl, hb, h⟩ := h
  have f3 := AutoSeq1.sub_list_list
  wp_walk using wpAny_loadPart' hl, wpAny_loadPart' hb
  exact ⟨plainId_quiet plain_eq_loop _, codeAny_builtin entry_eq_loop (by
    rw [Around.under_plainId plain_eq_loop _]
    exact lt_loop l b items items2 n n2 ns ms hI hJ hsz _ 0 rfl prog w A R _ ⟨hl, hb, by simpa using h⟩)⟩
/-- a row's object: a list of ints, written out -/
def RowAt (h : Heap) (a : Addr) (ns : List Int) : Prop := ∃ xs n, h.get? a = some (lstO xs n) ∧ IntsAre xs ns
theorem RowAt.keeps {h h' : Heap} {a : Addr} {ns : List Int} (R : RowAt h a ns) (k : ∀ b o, h.get? b = some o → h'.get? b = some o) : RowAt h' a ns := by
  obtain ⟨xs, n, e, i⟩ := R
  exact ⟨xs, n, k _ _ e, i⟩
section
variable {prog : Program} {w : World} {A : Around} {E : Value → Shared → Prop} {s : Shared}
theorem lt_rows {x y : Addr} {ns ms : List Int} {Q : Bool → Shared → Prop} (hu : A.units < cLine) (hx : RowAt s.heap x ns) (hy : RowAt s.heap y ms) (hl : ns.length = ms.length) (h : Q (ltL ns ms) s) :
    wpAny (model prog w) A (keyLt' oneType' (.ref x) (.ref y)) Q E s := by
  obtain ⟨xs, n, hx, hI⟩ := hx
  obtain ⟨ys, k, hy, hJ⟩ := hy
  rw [keyLt'_oneType, oneLt'_eq]
  simp only [if_true]
  refine wpAny_bind (wpAny_cRoomFor hu ?_)
  refine wpAny_bind (wpAny_callSpecialIfBound?_slot ⟨_, hx, rfl⟩ F.slot_list_lt (call_meets F.slot_list_lt ⟨_, hx, rfl⟩ F.entry_list_lt (F.args_list_lt_2 _ _)
    (lt_list x y xs.toArray ys.toArray n k ns ms (by simpa using hI) (by simpa using hJ) (by have := hI.length; have := hJ.length; simp; omega)) ⟨hx, hy, ?_⟩))
  exact wpAny_truthy_bool h

/-- what the sort gives: a row of them, first by its number -/
def SortOut (vs : List Value) (key : Nat → Int) (b : Bool) (out : List Value) : Prop :=
  out.length = vs.length ∧ ∀ v, out[0]? = some v → ∃ i, vs[i]? = some v ∧ ∀ j, j < vs.length → if b = true then key j ≤ key i else key i ≤ key j
theorem getD_some {vs : List Value} {i : Nat} (h : i < vs.length) : vs[i]? = some (vs.getD i Value.none) := by
  rw [List.getD_eq_getElem?_getD, List.getElem?_eq_getElem h]; rfl
theorem sortOut_of {vs : List Value} {key : Nat → Int} {b : Bool} {p : Array Nat} (h0 : 0 < vs.length) (hp : Pm vs.length p) (hu : Up (fun i => if b = true then key (vs.length - 1 - i) else key i) p vs.length) :
    SortOut vs key b (if b = true then (p.toList.map fun i => (if b = true then vs.reverse else vs).getD i Value.none).reverse else p.toList.map fun i => (if b = true then vs.reverse else vs).getD i Value.none) := by
  have hs := hp.size
  have all : ∀ j, j < vs.length → ∃ k, k < vs.length ∧ p.getD k 0 = j := fun j hj => by
    have hm : j ∈ p.toList := (List.Perm.mem_iff hp).mpr (List.mem_range.mpr hj)
    obtain ⟨k, hk, e⟩ := List.getElem_of_mem hm
    have hk' : k < p.size := by simpa using hk
    exact ⟨k, by omega, by simp [Array.getD, hk']; simpa using e⟩
  cases b with
  | false =>
    simp only [Bool.false_eq_true, if_false] at hu ⊢
    refine ⟨by simp [hs], fun v hv => ?_⟩
    refine ⟨p.getD 0 0, ?_, fun j hj => ?_⟩
    · have h0' : 0 < p.size := by omega
      have hl := hp.lt h0 0
      have e : p.toList[0]? = some (p.getD 0 0) := by simp [Array.getD, h0']
      rw [List.getElem?_map, e] at hv
      simp only [Option.map_some, Option.some.injEq] at hv
      rw [← hv]
      exact getD_some hl
    · obtain ⟨k, hk, rfl⟩ := all j hj
      simp only [Bool.false_eq_true, if_false]
      exact hu 0 k (Nat.zero_le _) hk
  | true =>
    simp only [if_true] at hu ⊢
    refine ⟨by simp [hs], fun v hv => ?_⟩
    have hl := hp.lt h0 (vs.length - 1)
    refine ⟨vs.length - 1 - p.getD (vs.length - 1) 0, ?_, fun j hj => ?_⟩
    · have h0' : vs.length - 1 < p.size := by omega
      have e : p.toList[vs.length - 1]? = some (p.getD (vs.length - 1) 0) := by simp [Array.getD, h0']
      rw [List.getElem?_reverse (by simp; omega)] at hv
      simp only [List.length_map, Array.length_toList, hs, Nat.sub_zero, List.getElem?_map] at hv
      rw [e] at hv
      simp only [Option.map_some, Option.some.injEq] at hv
      rw [← hv]
      have : vs.length - 1 - p.getD (vs.length - 1) 0 < vs.length := by omega
      rw [List.getD_eq_getElem?_getD, List.getElem?_reverse hl, ← List.getD_eq_getElem?_getD]
      exact getD_some this
    · obtain ⟨k, hk, e⟩ := all (vs.length - 1 - j) (by omega)
      have := hu k (vs.length - 1) (by omega) (by omega)
      unfold Ky at this
      simp only [e] at this
      rw [show vs.length - 1 - (vs.length - 1 - j) = j by omega] at this
      simp only [if_true]
      exact this
end
section
variable {prog : Program} {w : World} {A : Around} {E : Value → Shared → Prop} {s : Shared}
/-- the rows that a list's items are -/
structure RowsIn (h : Heap) (a : Addr) (vs : List Value) (row : Nat → List Int) (key : Nat → Int) : Prop where
  at_ : ∀ i, i < vs.length → ∃ x, vs[i]? = some (.ref x) ∧ RowAt h x (row i) ∧ x ≠ a
  lt_ : ∀ i j, i < vs.length → j < vs.length → (row i).length = (row j).length ∧ ltL (row i) (row j) = decide (key i < key j)
theorem RowsIn.rev {h : Heap} {a : Addr} {vs : List Value} {row : Nat → List Int} {key : Nat → Int} (R : RowsIn h a vs row key) (b : Bool) :
    RowsIn h a (if b = true then vs.reverse else vs) (fun i => if b = true then row (vs.length - 1 - i) else row i) (fun i => if b = true then key (vs.length - 1 - i) else key i) := by
  cases b with
  | false => exact ⟨R.at_, R.lt_⟩
  | true =>
    simp only [if_true]
    refine ⟨fun i hi => ?_, fun i j hi hj => ?_⟩
    · rw [List.length_reverse] at hi
      rw [List.getElem?_reverse hi]
      exact R.at_ _ (by omega)
    · rw [List.length_reverse] at hi hj
      exact R.lt_ _ _ (by omega) (by omega)
theorem RowsIn.keep {h h' : Heap} {a : Addr} {vs : List Value} {row : Nat → List Int} {key : Nat → Int} (R : RowsIn h a vs row key) (k : ∀ c o, c ≠ a → h.get? c = some o → h'.get? c = some o) : RowsIn h' a vs row key :=
  ⟨fun i hi => by
    obtain ⟨x, e, ⟨xs, n, o, I⟩, hx⟩ := R.at_ i hi
    exact ⟨x, e, ⟨xs, n, k _ _ hx o, I⟩, hx⟩, R.lt_⟩
theorem list_sort_rows {a : Addr} {vs : List Value} {n : Nat} {b : Bool} {row : Nat → List Int} {key : Nat → Int} {P : PySem.Fin → Shared → Prop} (hu : A.units < cLine) (ho : s.heap.get? a = some (seqObj "list" vs.toArray n)) (h64 : vs.length < 64)
    (R : RowsIn s.heap a vs row key)
    (h : ∀ h' e out, (∀ c o, c ≠ a → s.heap.get? c = some o → h'.get? c = some o) → h'.get? a = some (seqObj "list" (List.toArray out) e) → SortOut vs key b out → P (.done (.ret .none)) { s with heap := h' }) :
    wpAny (model prog w) A (Builtin.«list.sort» ⟨[.ref a], [(Str.ofString "reverse", .bool b)]⟩) P E s := by
  rw [list_sort_rev]
  have ha : a < s.heap.objs.size := Heap.lt_size ho
  refine wpAny_bind (listItems_at ho rfl ?_)
  refine wpAny_bind (listUpdate_at ho rfl ?_ (by rw [List.size_toArray, sizeLine_eq]; omega) (Nat.zero_le _))
  obtain ⟨e1, ho1⟩ : ∃ e1, (s.heap.update a (Obj.mapSeq fun _ => (#[] : Array Value))).get? a = some (seqObj "list" #[] e1) := ⟨_, get?_update_seq ho fun _ => #[]⟩
  refine wpAny_bind (seqEpoch_at ho1 rfl ?_)
  refine wpAny_bind (wpAny_newTuple ?_ (by show vs.length ≤ _; rw [sizeLine_eq]; omega))
  refine wpAny_bind (wpAny_newList ?_ (Nat.zero_le _))
  refine wpAny_holding ?_
  show wpAny (model prog w) A _ P E { s with heap := ((s.heap.update a (Obj.mapSeq fun _ => (#[] : Array Value))).push (seqObj "tuple" vs.toArray 0)).push (seqObj "list" #[] 0) }
  have s1 := Heap.SameBut.update s.heap a (Obj.mapSeq fun _ => (#[] : Array Value))
  have hk : ∀ c o, c ≠ a → s.heap.get? c = some o → (((s.heap.update a (Obj.mapSeq fun _ => (#[] : Array Value))).push (seqObj "tuple" vs.toArray 0)).push (seqObj "list" #[] 0)).get? c = some o :=
    fun c o hc e => Heap.get?_push_of_some _ (Heap.get?_push_of_some _ ((s1.2 c hc).trans e))
  have ho6 : (((s.heap.update a (Obj.mapSeq fun _ => (#[] : Array Value))).push (seqObj "tuple" vs.toArray 0)).push (seqObj "list" #[] 0)).get? a = some (seqObj "list" #[] e1) := Heap.get?_push_of_some _ (Heap.get?_push_of_some _ ho1)
  generalize ((s.heap.update a (Obj.mapSeq fun _ => (#[] : Array Value))).push (seqObj "tuple" vs.toArray 0)).push (seqObj "list" #[] 0) = H at hk ho6 ⊢
  have R' := (R.keep hk).rev b
  have fin : ∀ out : List Value, out.length = vs.length → SortOut vs key b out → ∃ c2, (H.update a (Obj.mapSeq fun _ => List.toArray out)).get? a = some (seqObj "list" (List.toArray out) c2) ∧ P (.done (.ret .none)) { s with heap := H.update a (Obj.mapSeq fun _ => List.toArray out) } := fun out _ hs => by
    have s2 := Heap.SameBut.update H a (Obj.mapSeq fun _ => List.toArray out)
    have e := get?_update_seq ho6 fun _ => List.toArray out
    exact ⟨_, e, h _ _ out (fun c o hc q => (s2.2 c hc).trans (hk c o hc q)) e hs⟩
  have step : ∀ t : Sem PySem.Fin, wpAny (model prog w) A t P E { s with heap := H } → wpAny (model prog w) A (if b = true then (do let _ ← rule "list.sort.reverse"; t) else t) P E { s with heap := H } := by
    intro t ht
    split
    · exact wpAny_bind (wpAny_rule ht)
    · exact ht
  dsimp only
  refine step _ ?_
  by_cases h2 : vs.toArray.size < 2
  · rw [if_pos h2, if_pos h2]
    refine wpAny_bind (wpAny_pure ?_)
    rw [StateT.run_pure]
    refine wpAny_bind (wpAny_pure ?_)
    dsimp only
    refine wpAny_bind (seqEpoch_at ho6 rfl ?_)
    have hv : (if b = true then (Array.map (fun x => x.2) (arrOf (SortSt.mk' general' (if b = true then (vs.toArray.zip vs.toArray).reverse else vs.toArray.zip vs.toArray) #[] 7 none))).reverse else Array.map (fun x => x.2) (arrOf (SortSt.mk' general' (if b = true then (vs.toArray.zip vs.toArray).reverse else vs.toArray.zip vs.toArray) #[] 7 none))) = vs.toArray := by
      have hl : vs.length < 2 := by simpa using h2
      have ha' : ∀ arr : Array Keyed, arrOf (SortSt.mk' general' arr #[] 7 none) = arr := fun _ => rfl
      rw [ha']
      clear fin R' R h step ho
      match vs, hl with
      | [], _ => cases b <;> simp
      | [x], _ => cases b <;> simp
    rw [hv]
    obtain ⟨c2, _, hP⟩ := fin vs rfl ⟨rfl, fun v hv => ⟨0, hv, fun j hj => by
      have hl : vs.length < 2 := by simpa using h2
      rw [show j = 0 by omega]
      split <;> exact Int.le_refl _⟩⟩
    refine wpAny_bind (listUpdate_at ho6 rfl ?_ (Nat.zero_le _) (by show vs.toArray.size ≤ _; rw [List.size_toArray, sizeLine_eq]; omega))
    simp only [bne_self_eq_false, Bool.false_eq_true, if_false]
    exact wpAny_pure hP
  · rw [if_neg h2, if_neg h2]
    have h2' : 2 ≤ vs.length := by simpa using h2
    have hT : ∀ v ∈ vs, Looks (model prog w) H (typeOf v) (Value.type "list") := fun v hv => by
      obtain ⟨i, hi, rfl⟩ := List.getElem_of_mem hv
      obtain ⟨x, e, ⟨xs, n, o, I⟩, hx⟩ := (R.keep hk).at_ i hi
      rw [List.getElem?_eq_getElem hi] at e
      rw [Option.some.inj e]
      exact (Looks.ld o).andThen .now
    refine wpAny_bind (kas_kind h2' hT rfl rfl ?_)
    have hlen : (if b = true then vs.reverse else vs).length = vs.length := by cases b <;> simp
    have hz : (if b = true then (vs.toArray.zip vs.toArray).reverse else vs.toArray.zip vs.toArray) = pairsOf (if b = true then vs.reverse else vs) := by
      cases b with
      | false => rfl
      | true =>
        simp only [if_true]
        apply Array.toList_inj.mp
        rw [Array.toList_reverse, pairsOf_toList]
        have e0 : (vs.toArray.zip vs.toArray).toList = vs.zip vs := by simp
        rw [e0]
        show (List.zipWith Prod.mk vs vs).reverse = List.zipWith Prod.mk vs.reverse vs.reverse
        exact List.reverse_zipWith rfl
    rw [hz]
    have est : SortSt.mk' oneType' (pairsOf (if b = true then vs.reverse else vs)) #[] 7 none = kas_st oneType' (pairsOf (if b = true then vs.reverse else vs)) (List.toArray (List.range vs.length)) := by
      have e := kas_range (pairsOf (if b = true then vs.reverse else vs))
      rw [pairsOf_size, hlen] at e
      show SortSt.mk' oneType' (pairsOf (if b = true then vs.reverse else vs)) #[] 7 none = SortSt.mk' oneType' ((List.toArray (List.range vs.length)).map (kas_item (pairsOf (if b = true then vs.reverse else vs)))) #[] 7 none
      rw [e]
    have ask : (kas_sort vs.length).kasWp (kas_cmp prog w A oneType' (pairsOf (if b = true then vs.reverse else vs))) (fun p s' => s' = { s with heap := H } ∧ Pm vs.length p ∧ Up (fun i => if b = true then key (vs.length - 1 - i) else key i) p vs.length) { s with heap := H } := by
      refine kW_wp (n := vs.length) (key := fun i => if b = true then key (vs.length - 1 - i) else key i) (fun i j C hi hj hC => ?_) (fun p hp => ⟨rfl, hp⟩) _ (w_sort (by omega))
      rw [← kas_ask_eq]
      unfold kas_ask
      obtain ⟨x, ex, rx, _⟩ := R'.at_ i (by rw [hlen]; exact hi)
      obtain ⟨y, ey, ry, _⟩ := R'.at_ j (by rw [hlen]; exact hj)
      obtain ⟨l1, l2⟩ := R'.lt_ i j (by rw [hlen]; exact hi) (by rw [hlen]; exact hj)
      rw [List.getD_eq_getElem?_getD, ex, List.getD_eq_getElem?_getD, ey]
      refine lt_rows hu rx ry l1 ?_
      rw [l2]
      exact hC
    have run := kas_runs (E := E) (Q := fun _ st' s' => ∃ p : Array Nat, p.size = vs.length ∧ arrOf st' = p.map (kas_item (pairsOf (if b = true then vs.reverse else vs))) ∧ failedOf st' = none ∧ s' = { s with heap := H } ∧ Pm vs.length p ∧ Up (fun i => if b = true then key (vs.length - 1 - i) else key i) p vs.length)
      h2' h64 (fun p' st' s' a1 a2 a3 a4 => ⟨p', a1, a2, a3, a4⟩) ask
    rw [← est] at run
    refine wpAny_bind (wpAny_mono run ?_ fun _ _ e => e)
    rintro ⟨⟨⟩, st'⟩ s' ⟨p, hp, har, hf, rfl, hpm, hup⟩
    dsimp only
    have hout : (arrOf st').map (·.2) = List.toArray (p.toList.map fun i => (if b = true then vs.reverse else vs).getD i Value.none) := by
      apply Array.toList_inj.mp
      rw [har, Array.map_map, Array.toList_map]
      exact List.map_congr_left fun i _ => by show (kas_item (pairsOf _) i).2 = _; rw [kas_item_eq]
    have hout2 : (if b = true then ((arrOf st').map (·.2)).reverse else (arrOf st').map (·.2)) = List.toArray (if b = true then (p.toList.map fun i => (if b = true then vs.reverse else vs).getD i Value.none).reverse else p.toList.map fun i => (if b = true then vs.reverse else vs).getD i Value.none) := by
      rw [hout]
      cases b <;> simp
    have hso := sortOut_of (by omega) hpm hup
    refine wpAny_bind (seqEpoch_at ho6 rfl ?_)
    rw [hout2]
    obtain ⟨c2, _, hP⟩ := fin _ hso.1 hso
    refine wpAny_bind (listUpdate_at ho6 rfl ?_ (Nat.zero_le _) (by rw [List.size_toArray, hso.1, sizeLine_eq]; omega))
    rw [hf]
    simp only [bne_self_eq_false, Bool.false_eq_true, if_false]
    exact wpAny_pure hP
theorem sorted_rows {l : Addr} {vs : List Value} {b : Bool} {row : Nat → List Int} {key : Nat → Int} {Q : Value → Shared → Prop} (hu : A.units + 2 < cLine) (hl : s.heap.IsList l vs.toArray) (h64 : vs.length < 64)
    (hr : ∀ i, i < vs.length → ∃ x, vs[i]? = some (.ref x) ∧ RowAt s.heap x (row i)) (hlt : ∀ i j, i < vs.length → j < vs.length → (row i).length = (row j).length ∧ ltL (row i) (row j) = decide (key i < key j))
    (h : ∀ D h' e out, (∀ c o, s.heap.get? c = some o → h'.get? c = some o) → s.heap.get? D = none → h'.get? D = some (seqObj "list" (List.toArray out) e) → SortOut vs key b out → Q (.ref D) { s with heap := h' }) :
    wpAny (model prog w) A (call (.builtin "sorted") [.ref l] [(Str.ofString "reverse", .bool b)]) Q E s := by
  refine call_function_entry_kw kind_sorted plain_sorted entry_sorted (args_sorted_rev _ _) ?_
  unfold Builtin.«sorted»
  refine wpAny_bind (m := checkCount "sorted" 1 1 _) (wpAny_pure ?_)
  refine wpAny_bind (collect_list hl ?_ (by rw [sizeLine_eq]; omega))
  refine wpAny_bind (wpAny_newList ?_ (by rw [sizeLine_eq]; omega))
  have hsz : ((s.heap.push (seqObj "list" #[] 0)).update s.heap.objs.size (Obj.mapSeq (· ++ vs.toArray))).objs.size = s.heap.objs.size + 1 := by
    rw [Heap.size_update, size_push']
  have hoL : (((s.heap.push (seqObj "list" #[] 0)).update s.heap.objs.size (Obj.mapSeq (· ++ vs.toArray))).push (seqObj "list" vs.toArray 0)).get? (s.heap.objs.size + 1) = some (seqObj "list" vs.toArray 0) := by
    rw [← hsz]; exact Heap.get?_push_size _ rfl
  have keep : ∀ b o, s.heap.get? b = some o → (((s.heap.push (seqObj "list" #[] 0)).update s.heap.objs.size (Obj.mapSeq (· ++ vs.toArray))).push (seqObj "list" vs.toArray 0)).get? b = some o := fun b o q => by
    have hlt : b < s.heap.objs.size := Heap.lt_size q
    rw [Heap.get?_push_ne _ _ _ (by rw [hsz]; exact Nat.ne_of_lt (Nat.lt_succ_of_lt hlt)), Heap.get?_update_ne _ _ _ _ (Nat.ne_of_lt hlt), Heap.get?_push_ne _ _ _ (Nat.ne_of_lt hlt)]
    exact q
  show wpAny _ _ _ _ _ { s with heap := ((s.heap.push (seqObj "list" #[] 0)).update s.heap.objs.size (Obj.mapSeq (· ++ vs.toArray))).push (seqObj "list" vs.toArray 0) }
  rw [hsz]
  refine wpAny_bind (wpAny_holding (wpAny_call_entry_kw slot_list_sort ⟨_, hoL, rfl⟩ entry_list_sort (list_sort_rows (s := { s with heap := ((s.heap.push (seqObj "list" #[] 0)).update s.heap.objs.size (Obj.mapSeq (· ++ vs.toArray))).push (seqObj "list" vs.toArray 0) }) (row := row) (key := key) ?_ hoL h64 ⟨fun i hi => ?_, hlt⟩ fun h' e out k ho hs => ⟨_, rfl, ?_⟩) (args_list_sort_rev _ _)))
  · show A.units + 1 + 1 < cLine
    omega
  · obtain ⟨x, ex, rx⟩ := hr i hi
    refine ⟨x, ex, rx.keeps keep, ?_⟩
    obtain ⟨xs, n, o, _⟩ := rx
    exact Nat.ne_of_lt (Nat.lt_succ_of_lt (Heap.lt_size o))
  · refine wpAny_pure ⟨_, rfl, h _ _ e out (fun c o q => k c o (Nat.ne_of_lt (Nat.lt_succ_of_lt (Heap.lt_size q))) (keep c o q)) ?_ ho hs⟩
    cases q : s.heap.get? (s.heap.objs.size + 1) with
    | none => rfl
    | some o => exact absurd (Heap.lt_size q) (Nat.not_lt.mpr (Nat.le_succ _))
end
/-! lists of rows, compared as data -/
def rowD (r : List Int) : PyData := .list (r.map PyData.int)
def rowsD (rows : List (List Int)) : PyData := .list (rows.map rowD)
def RowsAre (h : Heap) (vs : List Value) (rows : List (List Int)) : Prop := Paired (fun v r => ∃ x, v = Value.ref x ∧ RowAt h x r) vs rows
theorem reads_rows {h : Heap} {a : Addr} {k : Nat} {vs : List Value} {rows : List (List Int)} (ha : h.get? a = some (lstO vs k)) (hr : RowsAre h vs rows) : ∃ as, Reads h (.ref a) (rowsD rows) as := by
  have all : ∀ {vs : List Value} {rows : List (List Int)}, RowsAre h vs rows → ∃ as, ReadsAll h vs (rows.map rowD) as := by
    intro vs rows hr
    induction hr with
    | nil => exact ⟨_, .nil⟩
    | cons r _ ih =>
      obtain ⟨x, rfl, xs, n, ho, hi⟩ := r
      obtain ⟨as, ih⟩ := ih
      exact ⟨_, .cons (reads_newData ⟨_, ho, rfl, _, rfl⟩ (ke_carried hi)) ih⟩
  obtain ⟨as, ha'⟩ := all hr
  exact ⟨_, reads_list_at ha rfl rfl (by simpa using ha')⟩
theorem rows_shaped (rows : List (List Int)) : SeqAt.shaped (rowsD rows) = true := by
  have h1 : ∀ rows : List (List Int), PyData.canLayAll0 (rows.map rowD) = true := by
    intro rows
    induction rows with
    | nil => rfl
    | cons r rows ih => simp [rowD, PyData.canLayAll0, PyData.canLay0, ke_canLayAll0, ih]
  have h2 : ∀ rows : List (List Int), PyData.depthAll (rows.map rowD) ≤ 1 := by
    intro rows
    induction rows with
    | nil => simp [PyData.depthAll]
    | cons r rows ih => simp [rowD, PyData.depthAll, PyData.depth, ke_depthAll]; omega
  have := h2 rows
  simp [rowsD, SeqAt.shaped, PyData.canLay0, PyData.depth, h1]
  omega
theorem rows_same (a b : List (List Int)) : same (rowsD a) (rowsD b) = decide (a = b) := by
  have key : ∀ a b : List (List Int), PySem.Spec.sameAll (a.map rowD) (b.map rowD) = decide (a = b) := by
    intro a
    induction a with
    | nil => intro b; cases b <;> simp [PySem.Spec.sameAll]
    | cons r a ih =>
      intro b
      cases b with
      | nil => simp [PySem.Spec.sameAll]
      | cons q b =>
        have e : PySem.Spec.same (rowD r) (rowD q) = decide (r = q) := ke_same r q
        simp only [List.map_cons, PySem.Spec.sameAll, e, ih b]
        by_cases h : r = q <;> by_cases h' : a = b <;> simp [h, h']
  simp only [rowsD, PySem.Spec.same]
  exact key a b
theorem rows_mix (a b : List (List Int)) : SeqAt.noMix (rowsD a) (rowsD b) = true :=
  SeqAt.noMix_of_shape (.list (.list .int)) rfl _ _ (list_map_has fun _ => list_map_has fun _ => rfl) (list_map_has fun _ => list_map_has fun _ => rfl)
section
variable {prog : Program} {w : World} {A : Around} {E : Value → Shared → Prop} {s : Shared} {a b : Addr} {xs ys : List Value} {ra rb : List (List Int)} {k j : Nat} {Q : Value → Shared → Prop}
theorem ne_rows (ha : s.heap.get? a = some (lstO xs k)) (hb : s.heap.get? b = some (lstO ys j)) (hi : RowsAre s.heap xs ra) (hj : RowsAre s.heap ys rb) (hu : A.units + 64 < cLine) (h : Q (.bool (!decide (ra = rb))) s) :
    wpAny (model prog w) A (compareOp .NotEq (.ref a) (.ref b)) Q E s := by
  obtain ⟨_, r1⟩ := reads_rows ha hi
  obtain ⟨_, r2⟩ := reads_rows hb hj
  exact ne_dataH_same r1 r2 (rows_shaped _) (rows_shaped _) hu (rows_mix _ _) (by rw [rows_same]; exact h)
theorem eq_rows (ha : s.heap.get? a = some (lstO xs k)) (hb : s.heap.get? b = some (lstO ys j)) (hi : RowsAre s.heap xs ra) (hj : RowsAre s.heap ys rb) (hu : A.units + 64 < cLine) (h : Q (.bool (decide (ra = rb))) s) :
    wpAny (model prog w) A (compareOp .Eq (.ref a) (.ref b)) Q E s := by
  obtain ⟨_, r1⟩ := reads_rows ha hi
  obtain ⟨_, r2⟩ := reads_rows hb hj
  exact eq_dataH_same r1 r2 (rows_shaped _) (rows_shaped _) hu (rows_mix _ _) (by rw [rows_same]; exact h)
end
end Mine
namespace Mine
local macro_rules | `(tactic| k_room) => `(tactic| ktr_room)
local macro_rules | `(tactic| k_units) => `(tactic| ktr_units)
local macro_rules | `(tactic| walk_at "eval Name") => `(tactic| (k_here; (with_reducible show wpAny _ _ (eval (Expr.Name _ _) (compEnvC _ _ _ _)) _ _ _); k_dflt (first
  | (refine' ldOwn ?F ?x ?_ ?a ?b; (case a => rfl); (case b => rfl); (case F => k_asm); (case x => assumption); k_whole)
  | (refine' ldCellB ?F ?d ?c ?_ ?a ?b; (case a => rfl); (case b => rfl); (case F => k_asm); (case c => rfl); (case d => assumption); k_whole)
  | (refine' ldFreeB ?F ?d ?c ?_ ?a ?b; (case a => rfl); (case b => rfl); (case F => k_asm); (case c => rfl); (case d => assumption); k_whole))))
local macro_rules | `(tactic| walk_at "binaryOp Add ref ref") => `(tactic| (k_here; (with_reducible show wpAny _ _ (binaryOp _ (Value.ref _) (Value.ref _)) _ _ _); (refine' kmk_add_ints ?F ?N ?a ?b ?i ?j ?_ ?z; (case F => k_asm); (case N => k_asm); (case a => kmk_list); (case b => kmk_list); (case i => l_ints); (case j => l_ints); (case z => (simp only [List.length_append, List.length_take, List.length_drop, List.length_cons, List.length_nil, sizeLine_eq]; omega))); intro D' ws' h' F' N' l1 hI'; (try k_lt l1); (try k_sweep)))
local macro_rules | `(tactic| walk_at "pad") => `(tactic| fail "pad")
local macro_rules | `(tactic| walk_at "pad") => `(tactic| fail "pad")
local macro_rules | `(tactic| walk_at "pad") => `(tactic| fail "pad")
local macro_rules | `(tactic| walk_at "pad") => `(tactic| fail "pad")
local macro_rules | `(tactic| walk_at "pad") => `(tactic| fail "pad")
local macro_rules | `(tactic| walk_at "pad") => `(tactic| fail "pad")
theorem ints_get : ∀ {vs : List Value} {ns : List Int}, IntsAre vs ns → ∀ {i : Nat} {v : Value}, vs[i]? = some v → ∃ n t, v = .int n t ∧ ns[i]? = some n
  | _, _, .nil, _, _, h => by simp at h
  | _, _, .cons n t _, 0, _, h => by simp at h; exact ⟨n, t, h.symm, rfl⟩
  | _, _, .cons _ _ r, i + 1, _, h => by
    obtain ⟨n, t, e, hn⟩ := ints_get r (i := i) (by simpa using h)
    exact ⟨n, t, e, by simpa using hn⟩
theorem orders_take {ts : List Int} {i : Nat} {t : Int} (h : ts[i]? = some t) : orders (ts.take (i + 1)) = ostep (orders (ts.take i)) t := by
  unfold orders
  rw [List.take_add_one, h]
  simp
theorem ostep_len (rows : List (List Int)) (t : Int) (k : Nat) (h : ∀ r ∈ rows, r.length = k) : (ostep rows t).length = rows.length * (k + 1) ∧ ∀ r ∈ ostep rows t, r.length = k + 1 := by
  induction rows with
  | nil => simp [ostep]
  | cons r rows ih =>
    obtain ⟨e1, e2⟩ := ih fun q hq => h q (.tail _ hq)
    have hr := h r (.head _)
    constructor
    · unfold ostep at e1 ⊢
      rw [List.flatMap_cons, List.length_append, e1, ins_len, hr, List.length_cons, Nat.add_mul]; omega
    · intro q hq
      unfold ostep at e2 hq
      rw [List.flatMap_cons, List.mem_append] at hq
      rcases hq with hq | hq
      · simp only [ins, List.mem_map, List.mem_range] at hq
        obtain ⟨j, hj, rfl⟩ := hq
        simp only [List.length_append, List.length_take, List.length_drop, List.length_cons, List.length_nil]
        omega
      · exact e2 q hq
theorem orders_len (ts : List Int) : ∀ i, i ≤ ts.length → i ≤ 4 → (orders (ts.take i)).length ≤ 24 ∧ ∀ r ∈ orders (ts.take i), r.length = i := by
  have fact : ∀ i, i ≤ ts.length → (orders (ts.take i)).length = (List.range i).foldl (fun a j => a * (j + 1)) 1 ∧ ∀ r ∈ orders (ts.take i), r.length = i := by
    intro i
    induction i with
    | zero => intro _; simp [orders]
    | succ i ih =>
      intro hi
      obtain ⟨e1, e2⟩ := ih (by omega)
      have ht : ts[i]? = some ts[i] := List.getElem?_eq_getElem (by omega)
      rw [orders_take ht]
      obtain ⟨e3, e4⟩ := ostep_len _ ts[i] i e2
      exact ⟨by rw [e3, e1, List.range_succ, List.foldl_append]; rfl, e4⟩
  intro i hi h4
  obtain ⟨e1, e2⟩ := fact i hi
  refine ⟨?_, e2⟩
  rw [e1]
  rcases i with _ | _ | _ | _ | _ | i <;> first | decide | omega

theorem part_len {rs : List (List Int)} {t : Int} {k i j : Nat} (h1 : rs.length ≤ 24) (h2 : ∀ r ∈ rs, r.length = k) (hk : k ≤ 4) :
    ((rs.take i).flatMap (ins t) ++ (ins t (rs.getD i [])).take j).length < sizeLine := by
  have e1 := (ostep_len (rs.take i) t k fun r hr => h2 r (List.mem_of_mem_take hr)).1
  unfold ostep at e1
  have e3 : (rs.getD i []).length ≤ 4 := by
    rw [List.getD_eq_getElem?_getD]
    cases e : rs[i]? with
    | none => simp
    | some r => have := h2 r (List.mem_of_getElem? e); simp; omega
  rw [List.length_append, e1, List.length_take, List.length_take, ins_len, sizeLine_eq]
  have : min i rs.length * (k + 1) ≤ 24 * 5 := Nat.mul_le_mul (by omega) (by omega)
  omega
theorem allLt_mem {d : Nat} {l : Led} (h : AllLt d l) : ∀ p ∈ l, @LT.lt Nat _ p.1 d := by
  induction l with
  | nil => exact fun p hp => nomatch hp
  | cons q l ih =>
    intro p hp
    rcases List.mem_cons.mp hp with e | hp
    · rw [e]
      exact h.1
    · exact ih h.2 p hp
theorem eltEnd_of {base : Heap} {C : Addr} {s : Shared} {m : Str → Option Value} {news mid : Led} {Φ Φ' : List Value → Led → Prop} {a : Addr} {o : Obj} {h' : Heap} {tk' : Nat}
    (F : Fr base C h' m) (N : News base C h' ((a, o) :: (mid ++ news))) (hlt : AllLt a news) (hp : ∀ ys objs, Φ ys objs → Φ' (ys ++ [.ref a]) ([(a, o)] ++ objs)) :
    EltEnd base C s m news Φ Φ' (.ref a) { s with heap := h', toks := tk' } :=
  ⟨h', tk', [(a, o)], rfl, F, fun q hq => by
    rcases List.mem_cons.mp hq with rfl | hq
    · exact N _ (.head _)
    · exact N q (.tail _ (List.mem_append.mpr (.inr hq))), fun p hp q hq => by
    rw [List.mem_singleton.mp hp]
    exact Ne.symm (Nat.ne_of_lt (allLt_mem hlt q hq)), hp⟩
theorem ordersC (w : World) (mean : ExcName → Option Value) (mg mb : Str → Option Value) (s : Shared) (l : Addr) (vs : List Value) (ts : List Int) (hl : s.heap.IsList l vs.toArray) (hi : IntsAre vs ts) (h4 : ts.length ≤ 4) :
    Tel 12 w mean mg mb 229 [.ref l] [] (fun r h' => ∃ (R : Addr) (ys : List Value) (k : Nat) (rl : Led), r = .ref R ∧ h'.get? R = some (lstO ys k) ∧ s.heap.get? R = none ∧ (∀ p ∈ rl, h'.get? p.1 = some p.2 ∧ s.heap.get? p.1 = none) ∧ RelR ys rl (orders ts)) s := by
  unfold Tel
  intro dp un gd outs base Q E B X T hdp hu hret
  refine wpAny_call ?_
  k_dflt (refine' enterC (c := Str.ofString "thing") ?k1 ?k3 ?k5 ?k6 ?k7 ?k8 ?k9 ?kB ?kC ?_ ?c5 ?c2 ?c3 ?c4; (case k1 => assumption); (case k3 => assumption); (case k5 => assumption); (case k6 => k_is); (case k7 => k_is); (case k8 => ktr_room); (case k9 => exact rfl); (case kB => exact locs rfl); (case kC => intro L; exact rfl); (case c5 => intro L; exact rfl); (case c2 => exact rfl); (case c3 => exact rfl); (case c4 => exact rfl))
  intro g L' h₁ tk0 o0 hg F' N' hod B' X' T'
  try dsimp only
  repeat ((fail_if_success (with_reducible show wpAny _ _ (exec (Stmt.For _ _ _ _ _) _) _ _ _)); first | walk1 | (dsimp only; walk1))
  refine forK (L := L') (h₀ := g) rfl (fun _ _ => rfl) ?_
  walk1
  refine ⟨l, vs.toArray, _, _, fun i m news => OrdSt (L' + 1) (orders (ts.take i)) m news, rfl, by k_asm, by k_asm, ?_, ?_, ?_, ?_⟩
  · refine ⟨_, [.ref _], 0, [(_, lstO [] 0)], o0, none, if_pos rfl, .head _, fun p hp => ?_, ⟨rfl, .cons ⟨[], 0, rfl, .nil⟩ .nil⟩, .tail _ (.tail _ (.head _)), hod⟩
    rw [List.mem_singleton.mp hp]
    exact .tail _ (.head _)
  · intro i h m news F N P
    exact stays_list F.keep (hg ▸ hl)
  · intro i v m news I oI s' hv F N P hoff hIf hg1 hd1 ho1
    obtain ⟨t, tk, rfl, hti⟩ := ints_get hi (i := i) (v := v) (by simpa using hv)
    have hits : i < ts.length := by
      obtain ⟨h, _⟩ := List.getElem?_eq_some_iff.mp hti
      exact h
    obtain ⟨R, ys, k, rl, o, v0, hmr, hR, hrl, hrel, hc, hcd⟩ := P
    have hcI : L' + 1 ≠ I := hoff _ hc
    have zc := N _ (.tail _ hc)
    refine wpAny_assign_Name (wpAny_storeName_cell rfl rfl rfl ⟨o, zc.1, hcd⟩ fun h' hv' hs' => ?_)
    have F2 := F.change hs' zc.2.1 zc.2.2
    obtain ⟨o2, hc2, hd2⟩ := hv'
    have N2 : News g L' h' ((I, oI) :: (L' + 1, o2) :: news.filter (fun q => q.1 != L' + 1)) := fun q hq => by
      rcases List.mem_cons.mp hq with rfl | hq
      · have z := N _ (.head _)
        exact ⟨(hs'.2 _ (Ne.symm hcI)).trans z.1, z.2⟩
      · rcases List.mem_cons.mp hq with rfl | hq
        · exact ⟨hc2, zc.2⟩
        · have hq2 := List.mem_filter.mp hq
          have z := N q (.tail _ hq2.1)
          exact ⟨(hs'.2 _ (by simpa using hq2.2)).trans z.1, z.2⟩
    have hRc : R ≠ L' + 1 := fun e => by
      have z := (N _ (.tail _ hR)).1
      rw [e, zc.1] at z
      cases z
      cases hcd
    have hR2 : (R, lstO ys k) ∈ news.filter (fun q => q.1 != L' + 1) := List.mem_filter.mpr ⟨hR, by simpa using hRc⟩
    have hrl2 : ∀ p ∈ rl, p ∈ news.filter (fun q => q.1 != L' + 1) := fun p hp => List.mem_filter.mpr ⟨hrl p hp, by
      have : p.1 ≠ L' + 1 := fun e => by
        obtain ⟨r, hr⟩ := hrel.rowObj hp
        have z := (N _ (.tail _ (hrl p hp))).1
        rw [e, zc.1] at z
        cases z
        exact hr.not_cell hcd
      simpa using this⟩
    refine wpAny_execs_cons ?_
    refine assign2 (h₀ := g) rfl (by decide) (by rfl) (by rfl) (by with_unfolding_all rfl) (by with_unfolding_all rfl) (by decide) (by rfl) (by decide) (by rfl) (by rfl) ?_
    refine ldLoc F2 hmr ?_
    have hlR : h'.IsList R ys.toArray := ⟨_, (N2 _ (.tail _ (.tail _ hR2))).1, rfl, _, rfl⟩
    have rowAt : ∀ (base : Heap) (i' : Nat) (v' : Value), KpW none1 h' base → ys.toArray[i']? = some v' → ∃ a vs' r, v' = .ref a ∧ base.IsList a vs'.toArray ∧ IntsAre vs' r ∧ (orders (ts.take i))[i']? = some r := by
      intro base i' v' hk hv'
      obtain ⟨a, vs', n, r, rfl, hm, hi', hr⟩ := hrel.get (i := i') (v := v') (by simpa using hv')
      exact ⟨a, vs', r, rfl, ⟨_, hk _ _ id (N2 _ (.tail _ (.tail _ (hrl2 _ hm)))).1, rfl, _, rfl⟩, hi', hr⟩
    refine ⟨R, ys.toArray, fun i' j ys' objs => RelR ys' objs (((orders (ts.take i)).take i').flatMap (ins t) ++ (ins t ((orders (ts.take i)).getD i' [])).take j), fun i' => ((orders (ts.take i)).getD i' []).length + 1, _, _, rfl, hlR, ?_, ?_, ?_, ?_, ?_, F2, N2, ?_⟩
    · intro i' j ys' objs h
      rw [h.len]
      exact part_len (orders_len ts i (Nat.le_of_lt hits) (by omega)).1 (orders_len ts i (Nat.le_of_lt hits) (by omega)).2 (by omega)
    · exact RelR.nil
    · intro i' ys' objs hi' h
      have hi'' : i' < (orders (ts.take i)).length := by rw [← hrel.len]; simpa using hi'
      have e : (orders (ts.take i))[i']? = some (orders (ts.take i))[i'] := List.getElem?_eq_getElem hi''
      have e2 : (orders (ts.take i)).getD i' [] = (orders (ts.take i))[i'] := by rw [List.getD_eq_getElem?_getD, e]; rfl
      simp only [e2] at h
      rw [part_turn e] at h
      simpa using h
    · intro base C i' v' hk hv'
      obtain ⟨a, vs', r, rfl, hla, hia, hr⟩ := rowAt base i' v' hk hv'
      have hrl := (orders_len ts i (Nat.le_of_lt hits) (by omega)).2 r (List.mem_of_getElem? hr)
      have hr4 : r.length ≤ 4 := by omega
      have hv4 : vs'.length = r.length := hia.length
      have Xb : (hd.heap_39 w.params).In base := (X'.keeps F2.keep).keeps fun b o e => hk b o id e
      have Tb : Top hd.view_39 lz mean mg mb base := (T'.keeps F2.keep).keeps fun b o e => hk b o id e
      clear rowAt hret hl hcI hRc zc hcd hc2 hd2 hlR hR2 hrl2 hrl hrel hc hR hmr F2 N2 hs' F N hoff hv hi h4
      intro s9 m9 news9 E9 F9 N9 hm9
      try dsimp only at hm9
      repeat' (first | (dsimp only; walk1) | walk1)
      rename IsRange _ _ _ _ _ _ _ _ => rgX
      have e2 : (orders (ts.take i)).getD i' [] = r := by rw [List.getD_eq_getElem?_getD, hr]; rfl
      refine ⟨_, _, _, _, _, _, _, rfl, by assumption, by assumption, rfl, rgX, ?_, ?_⟩
      · exact small_one (by omega) (by omega) (by simp; omega) (by simp; omega)
      · rw [rangeSize_nat, e2]
        simp [hv4]
    · intro base C i' j v' hk hi' hj hv'
      obtain ⟨a, vs', r, rfl, hla, hia, hr⟩ := rowAt base i' v' hk hv'
      have hrl := (orders_len ts i (Nat.le_of_lt hits) (by omega)).2 r (List.mem_of_getElem? hr)
      have hr4 : r.length ≤ 4 := by omega
      have hv4 : vs'.length = r.length := hia.length
      have Xb : (hd.heap_39 w.params).In base := (X'.keeps F2.keep).keeps fun b o e => hk b o id e
      have Tb : Top hd.view_39 lz mean mg mb base := (T'.keeps F2.keep).keeps fun b o e => hk b o id e
      have hcell : base.IsCell (L' + 1) (some (.int t tk)) := ⟨o2, hk _ _ id hc2, hd2⟩
      clear rowAt hret hl hcI hRc zc hcd hc2 hd2 hlR hR2 hrl2 hrl hrel hc hR hmr F2 N2 hs' F N hoff hv hi h4
      rintro s9 m9 news9 E9 F9 N9 ⟨hm9, tj, hj9⟩
      try dsimp only at hm9 hj9
      repeat' (first | (dsimp only; walk1) | walk1)
      have e2 : (orders (ts.take i)).getD i' [] = r := by rw [List.getD_eq_getElem?_getD, hr]; rfl
      rename News _ _ _ _ => N7
      rename Fr _ _ _ _ => F7
      rename IntsAre _ (_ ++ _) => I7
      rename _ ∧ _ ∧ _ ∧ _ ∧ AllLt _ _ => l7
      refine eltEnd_of (mid := [_, _, _, _]) F7 N7 l7.2.2.2.2 ?_
      intro ys' objs hΦ
      simp only [e2] at hΦ hj ⊢
      rw [part_step hj]
      refine hΦ.snoc ⟨_, 0, rfl, ?_⟩
      simpa using I7
    · intro D h3 tk3 ys3 objs3 F3 N3 hΦ
      have hsz : ys.toArray.size = (orders (ts.take i)).length := by rw [List.size_toArray, hrel.len]
      have hΦ2 : RelR ys3 objs3 (orders (ts.take (i + 1))) := by
        rw [orders_take hti]
        have := hΦ
        simp only [hsz, List.take_length, List.take_zero, List.append_nil] at this
        exact this
      obtain ⟨xs, hxs⟩ := hIf
      have zI := (N3 (I, oI) (.tail _ (List.mem_append.mpr (.inr (.head _))))).1
      refine wpAny_execs_nil ?_
      refine ⟨h3, tk3, _, (D, lstO ys3 ys3.length) :: (objs3 ++ ((L' + 1, o2) :: news.filter (fun q => q.1 != L' + 1))), ?_, F3, fun q hq => ?_, ⟨D, ys3, _, objs3, o2, _, if_pos rfl, .head _, fun p hp => .tail _ (List.mem_append.mpr (.inl hp)), hΦ2, .tail _ (List.mem_append.mpr (.inr (.head _))), hd2⟩, fun q hq => ?_⟩
      · rw [hg1, hd1, ho1]
      · refine N3 q ?_
        rcases List.mem_cons.mp hq with rfl | hq
        · exact .tail _ (List.mem_append.mpr (.inr (.head _)))
        · rcases List.mem_cons.mp hq with rfl | hq
          · exact .head _
          · rcases List.mem_append.mp hq with hq | hq
            · exact .tail _ (List.mem_append.mpr (.inl hq))
            · exact .tail _ (List.mem_append.mpr (.inr (.tail _ hq)))
      · intro e
        rcases List.mem_cons.mp hq with rfl | hq
        · have z := (N3 _ (.head _)).1
          rw [e, zI] at z
          cases z
          cases hxs
        · rcases List.mem_append.mp hq with hq | hq
          · have z := (N3 q (.tail _ (List.mem_append.mpr (.inl hq)))).1
            rw [e, zI] at z
            obtain ⟨r, vs', n, hr, _⟩ := hΦ2.rowObj hq
            have hz : oI = q.2 := Option.some.inj z
            have hx3 := (congrArg Obj.data (hz.trans hr)).symm.trans hxs
            cases hx3
          · rcases List.mem_cons.mp hq with rfl | hq
            · exact hcI e
            · exact hoff q (List.mem_filter.mp hq).1 e
  · intro h3 tk3 m3 news3 F3 N3 P3
    obtain ⟨R, ys, k, rl, o, v0, hmr, hR, hrl, hrel, hc, hcd⟩ := P3
    try dsimp only
    repeat' (first | (dsimp only; walk1) | walk1)
    refine ldLoc F3 hmr ?_
    repeat' (first | (dsimp only; walk1) | walk1)
    refine hret _ _ _ (fun b o e => F3.keep b o (hg ▸ e)) ⟨R, ys, k, rl, rfl, (N3 _ hR).1, hg ▸ (N3 _ hR).2.2, fun p hp => ⟨(N3 _ (hrl p hp)).1, hg ▸ (N3 _ (hrl p hp)).2.2⟩, ?_⟩
    rw [show vs.toArray.size = ts.length by rw [List.size_toArray, hi.length], List.take_length] at hrel
    exact hrel
local macro_rules | `(tactic| walk_at "eval Name") => `(tactic| (k_here; (with_reducible show wpAny _ _ (eval (Expr.Name _ _) (envOfC _ _ _ _ _)) _ _ _); (refine' ldLoc ?F ?hx ?_); (case F => k_asm); (case hx => with_reducible assumption); k_whole))
/-! the law's own text -/
noncomputable def lawFn : List Stmt × Scope := match PySem.Challenge.pw_pg0250_01.main.body.getLast? with
  | some (.FunctionDef _ _ body _ _ _ scope _ _ _) => (body, scope)
  | _ => ([], default)
noncomputable def lawS (k : Nat) : Stmt := lawFn.1.getD k (.Pass default)
noncomputable def lawSc : Scope := lawFn.2
noncomputable abbrev lenv (L fa : Addr) (cd : Value) : Env := envOfC (Str.ofString "law") lawSc L fa cd
/-- an int result of an element -/
def IntPhi (rs : List Int) (ys : List Value) (objs : Led) : Prop := objs = [] ∧ IntsAre ys rs
theorem ints_snoc {vs : List Value} {ns : List Int} (h : IntsAre vs ns) (n : Int) (t : Tok) : IntsAre (vs ++ [.int n t]) (ns ++ [n]) := by
  induction h with
  | nil => exact .cons n t .nil
  | cons a u _ ih => exact .cons a u ih
theorem eltEnd_int {base : Heap} {C : Addr} {s : Shared} {m : Str → Option Value} {news : Led} {rs rs' : List Int} {r : Int} {t : Tok} {h' : Heap} {tk' : Nat}
    (F : Fr base C h' m) (N : News base C h' news) (hr : rs' = rs ++ [r]) : EltEnd base C s m news (IntPhi rs) (IntPhi rs') (.int r t) { s with heap := h', toks := tk' } :=
  ⟨h', tk', [], rfl, F, N, (fun _ hp => nomatch hp), fun ys objs h => ⟨h.1, hr ▸ ints_snoc h.2 r t⟩⟩
theorem IntPhi.len {rs : List Int} {ys : List Value} {objs : Led} (h : IntPhi rs ys objs) : ys.length = rs.length := h.2.length
theorem take_map_snoc {α β : Type} (f : α → β) {l : List α} {i : Nat} {a : α} (h : l[i]? = some a) : (l.take (i + 1)).map f = (l.take i).map f ++ [f a] := by
  rw [List.take_add_one, h]; simp
theorem addNe (L : Addr) {a b : Nat} (h : a ≠ b) : L + a ≠ L + b := fun e => h (Nat.add_left_cancel e)
theorem notCell {h₀ h : Heap} {L : Addr} {news : Led} (N : News h₀ L h news) {a c : Addr} {ys : List Value} {k : Nat} {o : Obj} {v : Option Value} (ha : (a, lstO ys k) ∈ news) (hc : (c, o) ∈ news) (hd : o.data = .cell v) : a ≠ c := fun e => by
  have z1 := (N _ ha).1
  have z2 := (N _ hc).1
  have e' : a = c := e
  simp only [e'] at z1
  rw [z1] at z2
  cases z2
  cases hd
section
variable {M : Model} {A : Around} {E : Value → Shared → Prop} {s : Shared} {h₀ : Heap} {L c : Addr} {m : Str → Option Value} {news : Led} {env : Env} {x : Str} {v : Value} {oc : Obj} {v0 : Option Value} {Q : Unit → Shared → Prop}
theorem stCell (F : Fr h₀ L s.heap m) (N : News h₀ L s.heap news) (hm : (c, oc) ∈ news) (hd : oc.data = .cell v0) (hk : env.scope.kind = .function) (hl : env.kindOf x = some .cell) (hc : env.cells.lookup x = some c)
    (h : ∀ h' o, Fr h₀ L h' m → o.data = .cell (some v) → News h₀ L h' [(c, o)] → (∀ p ∈ news, p.1 ≠ c → News h₀ L h' [p]) → Q () { s with heap := h' }) :
    wpAny M A (storeName env x v) Q E s := by
  have z := N _ hm
  refine wpAny_storeName_cell hk hl hc ⟨oc, z.1, hd⟩ fun h' hv hs => ?_
  obtain ⟨o, ho, hdo⟩ := hv
  refine h h' o (F.change hs z.2.1 z.2.2) hdo (fun p hp => ?_) fun p hp hne q hq => ?_
  · rw [List.mem_singleton.mp hp]
    exact ⟨ho, z.2⟩
  · rw [List.mem_singleton.mp hq]
    exact ⟨(hs.2 _ hne).trans (N p hp).1, (N p hp).2⟩
end
theorem news_cons {h₀ h : Heap} {L : Addr} {p : Addr × Obj} {news : Led} (a : News h₀ L h [p]) (b : News h₀ L h news) : News h₀ L h (p :: news) := fun q hq => by
  rcases List.mem_cons.mp hq with rfl | hq
  · exact a _ (.head _)
  · exact b q hq
theorem news_nil {h₀ h : Heap} {L : Addr} : News h₀ L h [] := fun _ hq => nomatch hq
/-- the throws drawn from the script -/
def thr (n : Int) (ns : List Int) : List Int := ((ns.take 4 ++ [1, 2, 3, 0]).take (n - 1).toNat).map fun v : Int => v.fmod n
section
variable {w : World} {mean : ExcName → Option Value} {mg mb : Str → Option Value} {s : Shared} {h₀ base : Heap} {L fa l : Addr} {cd : Value} {m : Str → Option Value} {dp un : Nat} {gd : Option (List Code)} {A₀ : Around} {Q : Flow → Shared → Prop} {vs : List Value} {ns : List Int} {n : Int} {t : Tok} {o1 o2 o3 o4 : Obj}
theorem st3 (hn : n = 4 ∨ n = 5) (B : Below A₀ base [] h₀) (X : (hd.heap_39 w.params).In h₀) (T : Top hd.view_39 lz mean mg mb h₀) (F : Fr h₀ L s.heap m) (N : News h₀ L s.heap [(L + 4, o4), (L + 3, o3), (L + 2, o2), (L + 1, o1)]) (d1 : o1.data = .cell (some (.int n t))) (d3 : o3.data = .cell none)
    (hm : m (Str.ofString "script") = some (.ref l)) (hl : h₀.IsList l vs.toArray) (hi : IntsAre vs ns) (h63 : ns.length ≤ 63) (hv63 : vs.length ≤ 63)
    (ret : ∀ h' tk D ys o, Fr h₀ L h' m → News h₀ L h' [(D, lstO ys ys.length), (L + 3, o), (L + 4, o4), (L + 2, o2), (L + 1, o1)] → o.data = .cell (some (.ref D)) → IntsAre ys (thr n ns) → Q .next { s with heap := h', toks := tk }) :
    wpAny (model prg w) (AK dp un gd [lenv L fa cd]) (exec (lawS 2) (lenv L fa cd)) Q Ef s := by
  rw [show lenv L fa cd = envOfC (Str.ofString "law") (Scope.mk _ _ _ _ _) L fa cd from rfl]
  rw [show lawS 2 = Stmt.Assign [Expr.Name _ _] (Expr.ListComp _ [Comprehension.mk _ _ _ _] _ _) _ from rfl]
  walk1
  refine listCompN (h₀ := h₀) (L := L) (by with_unfolding_all rfl) (by decide) (by rfl) (by decide) ?_
  repeat ((fail_if_success (refine ⟨?_, ?_, ?_, ?_, ?_, ?_, ?_⟩)); first | walk1 | (dsimp only; walk1))
  rename Fr _ _ _ _ => F1
  rename News _ _ _ _ => N1
  rename IntsAre _ (List.take (n - 1).toNat _) => I1
  have n0 : 0 < n := by omega
  have hle : (List.take (n - 1).toNat (List.take 4 ns ++ [1, 2, 3, 0])).length ≤ 8 := by
    rw [List.length_take, List.length_append, List.length_take]
    simp only [List.length_cons, List.length_nil]
    omega
  refine ⟨_, _, fun i => IntPhi (((List.take (n - 1).toNat (List.take 4 ns ++ [1, 2, 3, 0])).take i).map fun v => v.fmod n), fun _ => true, _, _, src_list rfl ⟨_, (N1 _ (.head _)).1, rfl, _, rfl⟩ (fun C => by rfl) (fun C => rfl) (fun C => by rfl), ⟨?_, ?_, ?_, ?_, ?_⟩, F1, N1, ?_⟩
  · intro i ys objs h
    rw [h.len, sizeLine_eq, List.length_map, List.length_take]
    omega
  · exact ⟨rfl, .nil⟩
  · intro i ys objs _ e
    cases e
  · intro base' C i hk hi'
    exact testOk_nil
  · intro base' C i hk hi' _
    have hc1 : base'.IsCell (L + 1) (some (.int n t)) := ⟨_, hk _ _ id (N1 (L + 1, o1) (by k_mem)).1, d1⟩
    have Xb := (X.keeps F1.keep).keeps fun b o e => hk b o id e
    have Tb := (T.keeps F1.keep).keeps fun b o e => hk b o id e
    clear ret F1 N1
    rintro s9 m9 news9 E9 F9 N9 ⟨v9, hv9, hm9⟩
    obtain ⟨a, ta, rfl, ha⟩ := ints_get I1 (i := i) (by simpa using hv9)
    rw [take_map_snoc _ ha]
    repeat' (first | walk1 | (dsimp only; walk1))
    exact eltEnd_int F9 N9 rfl
  · intro D h' tk ys objs F' N' _ hΦ
    obtain ⟨rfl, hys⟩ := hΦ
    have hne : D ≠ L + 3 := notCell N' (.head _) (o := o3) (by k_mem) d3
    refine stCell F' N' (c := L + 3) (oc := o3) (by k_mem) d3 (by rfl) (by rfl) (by rfl) fun h2 o F2 hd2 Nc Nk => ?_
    repeat' (first | walk1 | (dsimp only; walk1))
    refine ret h2 _ D ys o F2 (news_cons (Nk _ (.head _) hne) (news_cons Nc (news_cons (Nk (L + 4, o4) (by k_mem) (addNe L (by decide))) (news_cons (Nk (L + 2, o2) (by k_mem) (addNe L (by decide))) (Nk (L + 1, o1) (by k_mem) (addNe L (by decide))))))) hd2 ?_
    have e : (thr n ns) = (((List.take (n - 1).toNat (List.take 4 ns ++ [1, 2, 3, 0]))).map fun v : Int => v.fmod n) := rfl
    rw [e]
    rw [List.take_of_length_le (by rw [List.size_toArray]; exact Nat.le_of_eq I1.length.symm)] at hys
    exact hys
end
section
variable {w : World} {mean : ExcName → Option Value} {mg mb : Str → Option Value} {s : Shared} {h₀ base : Heap} {L fa l D : Addr} {cd : Value} {m : Str → Option Value} {dp un : Nat} {gd : Option (List Code)} {A₀ : Around} {Q : Flow → Shared → Prop} {vs ys : List Value} {ns ts : List Int} {n : Int} {t : Tok} {o1 o2 o3 o4 : Obj} {k : Nat} {v2 v4 : Option Value}
theorem st4 (hn : n = 4 ∨ n = 5) (B : Below A₀ base [] h₀) (X : (hd.heap_39 w.params).In h₀) (T : Top hd.view_39 lz mean mg mb h₀) (F : Fr h₀ L s.heap m) (N : News h₀ L s.heap [(D, listOf ys.toArray k), (L + 3, o3), (L + 4, o4), (L + 2, o2), (L + 1, o1)]) (d1 : o1.data = .cell (some (.int n t))) (d2 : o2.data = .cell v2) (d3 : o3.data = .cell (some (.ref D))) (d4 : o4.data = .cell v4)
    (hm : m (Str.ofString "script") = some (.ref l)) (hl : h₀.IsList l vs.toArray) (hi : IntsAre vs ns) (h63 : ns.length ≤ 63) (hv63 : vs.length ≤ 63) (hy : IntsAre ys ts) (h8 : ts.length ≤ 8)
    (ret : ∀ h' tk ys' k', Fr h₀ L h' m → News h₀ L h' [(D, listOf (List.toArray ys') k'), (L + 3, o3), (L + 4, o4), (L + 2, o2), (L + 1, o1)] → IntsAre ys' (ts ++ [((ns.length : Int).fmod 2 - ts.sum).fmod n]) → Q .next { s with heap := h', toks := tk }) :
    wpAny (model prg w) (AK dp un gd [lenv L fa cd]) (exec (lawS 3) (lenv L fa cd)) Q Ef s := by
  rw [show lenv L fa cd = envOfC (Str.ofString "law") (Scope.mk _ _ _ _ _) L fa cd from rfl]
  rw [show lawS 3 = Stmt.Expr _ _ from rfl]
  have hy8 : ys.length ≤ 8 := by rw [hy.length]; exact h8
  repeat' (first | walk1 | (dsimp only; walk1))
  rename Fr _ _ _ _ => F1
  rename News _ _ _ _ => N1
  have zD := N1 _ (.head _)
  refine append_at (hsz := by rw [List.size_toArray, sizeLine_eq]; omega) zD.1 fun h6 hs6 hD6 => ?_
  have F6 := F1.change hs6 zD.2.1 zD.2.2
  have oth : ∀ (c : Addr) (o : Obj) (v : Option Value), (c, o) ∈ [(D, listOf ys.toArray k), (L + 3, o3), (L + 4, o4), (L + 2, o2), (L + 1, o1)] → o.data = .cell v → News h₀ L h6 [(c, o)] := fun c o v hc hd q hq => by
    rw [List.mem_singleton.mp hq]
    exact ⟨(hs6.2 _ (notCell N1 (.head _) hc hd).symm).trans (N1 _ hc).1, (N1 _ hc).2⟩
  repeat' (first | walk1 | (dsimp only; walk1))
  have key : ∀ v : Value, h6.get? D = some { cls := .type "list", data := .seq (ys.toArray.push v) (k + 1) } → News h₀ L h6 [(D, listOf (ys ++ [v]).toArray (k + 1))] := fun v hv q hq => by
    rw [List.mem_singleton.mp hq]
    refine ⟨hv.trans ?_, zD.2⟩
    show some ({ cls := .type "list", data := .seq (ys.toArray.push v) (k + 1) } : Obj) = some { cls := .type "list", data := .seq (ys ++ [v]).toArray (k + 1) }
    rw [List.push_toArray]
  exact ret h6 _ _ (k + 1) F6 (news_cons (key _ hD6) (news_cons (oth _ _ _ (by k_mem) d3) (news_cons (oth _ _ _ (by k_mem) d4) (news_cons (oth _ _ _ (by k_mem) d2) (oth _ _ _ (by k_mem) d1))))) (ints_snoc hy _ _)
end
def stepF (n : Int) (i : Int) : UInt64 := Float64.ofFrac (decide (i < 0) != decide (n < 0)) i.natAbs n.natAbs
def hueOf (n : Int) (j : Nat) : UInt64 := hueR (stepF n j)
theorem hueOk_step {n : Int} (hn : n = 4 ∨ n = 5) {i : Nat} (hi : i < n.toNat) : HueOk (stepF n i) := by
  rcases hn with rfl | rfl
  · rcases i with _ | _ | _ | _ | i
    all_goals first | exact HueOk.of (by decide +kernel) | exact absurd hi (by simp)
  · rcases i with _ | _ | _ | _ | _ | i
    all_goals first | exact HueOk.of (by decide +kernel) | exact absurd hi (by simp)
theorem below_kp {A : Around} {base h h' : Heap} {outs : List Env} (B : Below A base outs h) (hk : KpW none1 h h') : Below A base outs h' :=
  ⟨B.stack, fun b o e => hk b o id (B.stays b o e), B.frames.of_keeps fun b o e _ => ⟨o, hk b o id e, rfl⟩⟩
def FlAre (vs : List Value) (xs : List UInt64) : Prop := Paired (fun v x => ∃ t, v = Value.float x t) vs xs
def FlPhi (xs : List UInt64) (ys : List Value) (objs : Led) : Prop := objs = [] ∧ FlAre ys xs
theorem eltEnd_fl {base : Heap} {C : Addr} {s : Shared} {m : Str → Option Value} {news : Led} {rs rs' : List UInt64} {r : UInt64} {t : Tok} {h' : Heap} {tk' : Nat}
    (F : Fr base C h' m) (N : News base C h' news) (hr : rs' = rs ++ [r]) : EltEnd base C s m news (FlPhi rs) (FlPhi rs') (.float r t) { s with heap := h', toks := tk' } :=
  ⟨h', tk', [], rfl, F, N, (fun _ hp => nomatch hp), fun ys objs h => ⟨h.1, hr ▸ h.2.snoc ⟨t, rfl⟩⟩⟩
section
variable {w : World} {mean : ExcName → Option Value} {mg mb : Str → Option Value} {s : Shared} {h₀ base : Heap} {L fa l D : Addr} {cd : Value} {m : Str → Option Value} {dp un : Nat} {gd : Option (List Code)} {A₀ : Around} {Q : Flow → Shared → Prop} {vs ys : List Value} {ns ts : List Int} {n : Int} {t : Tok} {o1 o2 o3 o4 : Obj} {k : Nat} {v2 v4 : Option Value} {news : Led}
theorem st5 (hn : n = 4 ∨ n = 5) (B : ∀ h m, Fr h₀ L h m → Below (AK dp un gd [lenv L fa cd]) base [lenv L fa cd] h) (hdp : dp + 40 < recursionLimit) (hun : un + 400 < cLine) (X : (hd.heap_39 w.params).In h₀) (T : Top hd.view_39 lz mean mg mb h₀) (F : Fr h₀ L s.heap m) (N : News h₀ L s.heap news) (hc : (L + 1, o1) ∈ news) (d1 : o1.data = .cell (some (.int n t)))
    (ret : ∀ h' tk H ys, Fr h₀ L h' (fun z => if z = Str.ofString "hues" then some (.ref H) else m z) → News h₀ L h' ((H, lstO ys ys.length) :: news) → FlAre ys ((List.range n.toNat).map fun j => hueOf n j) → Q .next { s with heap := h', toks := tk }) :
    wpAny (model prg w) (AK dp un gd [lenv L fa cd]) (exec (lawS 4) (lenv L fa cd)) Q Ef s := by
  rw [show lenv L fa cd = envOfC (Str.ofString "law") (Scope.mk _ _ _ _ _) L fa cd from rfl] at *
  rw [show lawS 4 = Stmt.Assign [Expr.Name _ _] (Expr.ListComp _ [Comprehension.mk _ _ _ _] _ _) _ from rfl]
  refine assign1 (h₀ := h₀) (by with_unfolding_all rfl) (by with_unfolding_all rfl) (by decide) (by rfl) (by decide) (by rfl) (by rfl) ?_
  repeat ((fail_if_success (refine ⟨?_, ?_, ?_, ?_, ?_, ?_, ?_⟩)); first | walk1 | (dsimp only; walk1))
  rename IsRange _ _ _ _ _ _ _ _ => R1
  rename Fr _ _ _ _ => F1
  rename News _ _ _ _ => N1
  refine ⟨n.toNat, _, fun i => FlPhi (((List.range n.toNat).take i).map fun j => hueOf n j), fun _ => true, _, _, src_range rfl R1 (by rcases hn with rfl | rfl <;> decide) (by rcases hn with rfl | rfl <;> decide) (fun C => by rfl) (fun C => rfl) (fun C => by rfl), ⟨?_, ?_, ?_, ?_, ?_⟩, F1, N1, ?_⟩
  · intro i ys objs h
    rw [h.2.length, List.length_map, List.length_take, List.length_range, sizeLine_eq]
    omega
  · exact ⟨rfl, .nil⟩
  · intro i ys objs _ e
    cases e
  · intro base' C i hk hi'
    exact testOk_nil
  · intro base' C i hk hi' _
    have hc1 : base'.IsCell (L + 1) (some (.int n t)) := ⟨_, hk _ _ id (N1 _ hc).1, d1⟩
    have Xb := (X.keeps F1.keep).keeps fun b o e => hk b o id e
    have Tb := (T.keeps F1.keep).keeps fun b o e => hk b o id e
    have Bb := below_kp (B _ _ F1) hk
    clear ret F1 N1
    rintro s9 m9 news9 E9 F9 N9 ⟨tj, hm9⟩
    repeat' (first | walk1 | (dsimp only; walk1))
    refine (hue w mean mg mb _ (stepF n i) _ (hueOk_step hn hi')).useC Bb F9 Xb N9 Tb ?_ ?_ fun r h' tk' hp F' N' => ?_
    · omega
    · omega
    obtain ⟨t', rfl⟩ := hp
    dsimp only [qk]
    exact eltEnd_fl F' N' (take_map_snoc _ (List.getElem?_range hi'))
  · intro H h' tk ys objs F' N' hΦ
    obtain ⟨rfl, hys⟩ := hΦ
    rw [List.take_of_length_le (by rw [List.length_range]; exact Nat.le_refl _)] at hys
    exact ret h' tk H ys F' N' hys
end
def landX (n : Int) (i j : Nat) : UInt64 := Float64.mul (hueR (Float64.add (hueOf n i) (stepF n j))) (Float64.ofInt n)
def landOf (n : Int) (i j : Nat) : Int := (Flt.toInt Float64.nearestOf (landX n i j)).fmod n
def landsOf (n : Int) : List (List Int) := (List.range n.toNat).map fun i => (List.range n.toNat).map fun j => landOf n i j
def addB (n : Int) : Bool := (List.range n.toNat).all fun i => (List.range n.toNat).all fun j => hueB (Float64.add (hueOf n i) (stepF n j))
theorem add4 : addB 4 = true := by decide +kernel
theorem add5 : addB 5 = true := by decide +kernel
theorem hueOk_add {n : Int} (hn : n = 4 ∨ n = 5) {i j : Nat} (hi : i < n.toNat) (hj : j < n.toNat) : HueOk (Float64.add (hueOf n i) (stepF n j)) := by
  have h : addB n = true := by
    rcases hn with rfl | rfl
    · exact add4
    · exact add5
  unfold addB at h
  rw [List.all_eq_true] at h
  have h2 := h i (List.mem_range.mpr hi)
  rw [List.all_eq_true] at h2
  exact HueOk.of (h2 j (List.mem_range.mpr hj))
def landB (n : Int) : Bool := (List.range n.toNat).all fun i => (List.range n.toNat).all fun j => !Float64.isNaN (landX n i j) && (!Float64.isInf (landX n i j) && landOf n i j == ((i + j) % n.toNat : Nat))
theorem land4 : landB 4 = true := by decide +kernel
theorem land5 : landB 5 = true := by decide +kernel
theorem land_ok {n : Int} (hn : n = 4 ∨ n = 5) {i j : Nat} (hi : i < n.toNat) (hj : j < n.toNat) : ¬ Float64.isNaN (landX n i j) = true ∧ ¬ Float64.isInf (landX n i j) = true ∧ landOf n i j = ((i + j) % n.toNat : Nat) := by
  have h : landB n = true := by
    rcases hn with rfl | rfl
    · exact land4
    · exact land5
  unfold landB at h
  rw [List.all_eq_true] at h
  have h2 := h i (List.mem_range.mpr hi)
  rw [List.all_eq_true] at h2
  have h3 := h2 j (List.mem_range.mpr hj)
  simp only [Bool.and_eq_true, Bool.not_eq_true'] at h3
  exact ⟨by rw [h3.1]; decide, by rw [h3.2.1]; decide, eq_of_beq h3.2.2⟩
theorem fls_get : ∀ {vs : List Value} {xs : List UInt64}, FlAre vs xs → ∀ {i : Nat} {v : Value}, vs[i]? = some v → ∃ x t, v = .float x t ∧ xs[i]? = some x := fun h i v hv => by
  obtain ⟨x, hx, t, rfl⟩ := paired_get h hv
  exact ⟨x, t, rfl, hx⟩
section
variable {w : World} {mean : ExcName → Option Value} {mg mb : Str → Option Value} {s : Shared} {h₀ base : Heap} {L fa l D H : Addr} {cd : Value} {m : Str → Option Value} {dp un : Nat} {gd : Option (List Code)} {A₀ : Around} {Q : Flow → Shared → Prop} {vs ys : List Value} {ns ts : List Int} {n : Int} {t : Tok} {o1 o2 o3 o4 : Obj} {k : Nat} {v2 v4 : Option Value} {news : Led}
theorem st6 (hn : n = 4 ∨ n = 5) (B : ∀ h m, Fr h₀ L h m → Below (AK dp un gd [lenv L fa cd]) base [lenv L fa cd] h) (hdp : dp + 40 < recursionLimit) (hun : un + 400 < cLine) (X : (hd.heap_39 w.params).In h₀) (T : Top hd.view_39 lz mean mg mb h₀) (F : Fr h₀ L s.heap m) (N : News h₀ L s.heap ((H, lstO ys k) :: news)) (hc : (L + 1, o1) ∈ news) (d1 : o1.data = .cell (some (.int n t))) (hc4 : (L + 4, o4) ∈ news) (d4 : o4.data = .cell none)
    (hm : m (Str.ofString "hues") = some (.ref H)) (hy : FlAre ys ((List.range n.toNat).map fun j => hueOf n j))
    (ret : ∀ h' tk R ys rl o, Fr h₀ L h' m → News h₀ L h' ((R, lstO ys ys.length) :: (L + 4, o) :: (rl ++ news.filter (fun q => q.1 != L + 4))) → o.data = .cell (some (.ref R)) → RelR ys rl (landsOf n) → Q .next { s with heap := h', toks := tk }) :
    wpAny (model prg w) (AK dp un gd [lenv L fa cd]) (exec (lawS 5) (lenv L fa cd)) Q Ef s := by
  rw [show lenv L fa cd = envOfC (Str.ofString "law") (Scope.mk _ _ _ _ _) L fa cd from rfl] at *
  rw [show lawS 5 = Stmt.Assign [Expr.Name _ _] (Expr.ListComp (Expr.ListComp _ [Comprehension.mk _ _ _ _] _ _) [Comprehension.mk _ _ _ _] _ _) _ from rfl]
  walk1
  refine listCompCell (x := Str.ofString "hue") (h₀ := h₀) (L := L) rfl (fun _ _ => by rfl) (fun _ => by rfl) (fun _ _ => by rfl) (by with_unfolding_all rfl) (by rfl) (by decide) ?_
  walk1
  have hL : ((landsOf n).length) = n.toNat := by unfold landsOf; rw [List.length_map, List.length_range]
  refine ⟨H, ys.toArray, fun i ys' objs => RelR ys' objs ((landsOf n).take i), m, _, rfl, ⟨_, (N _ (.head _)).1, rfl, _, rfl⟩, ?_, RelR.nil, ?_, F, N, ?_⟩
  · intro i ys' objs h
    rw [h.len, sizeLine_eq, List.length_take, hL]
    omega
  · intro base' C d i v hk hdC hd0 hv s9 m9 news9 E9 F9 N9 hcell
    obtain ⟨x, tx, rfl, hx⟩ := fls_get hy (i := i) (by simpa using hv)
    obtain ⟨od, hod, hdd⟩ := hcell
    obtain ⟨hi', hx'⟩ : i < n.toNat ∧ hueOf n i = x := by
      obtain ⟨h1, h2⟩ := List.getElem?_eq_some_iff.mp hx
      exact ⟨by simpa using h1, by simpa using h2⟩
    subst hx'
    have N9' : News base' C s9.heap ((d, od) :: news9) := news_cons (fun q hq => by rw [List.mem_singleton.mp hq]; exact ⟨hod, hdC, hd0⟩) N9
    have hc1 : base'.IsCell (L + 1) (some (.int n t)) := ⟨_, hk _ _ id (N _ (.tail _ hc)).1, d1⟩
    have Xb := (X.keeps F.keep).keeps fun b o e => hk b o id e
    have Tb := (T.keeps F.keep).keeps fun b o e => hk b o id e
    have Bb := below_kp (B _ _ F) hk
    clear ret F N N9 hk B X T hc hc4 d4
    refine listCompN (h₀ := base') (L := C) (by with_unfolding_all rfl) (by decide) (by rfl) (by decide) ?_
    repeat ((fail_if_success (refine ⟨?_, ?_, ?_, ?_, ?_, ?_, ?_⟩)); first | walk1 | (dsimp only; walk1))
    rename IsRange _ _ _ _ _ _ _ _ => R1
    rename Fr _ _ _ _ => F1
    rename News _ _ _ _ => N1
    refine ⟨n.toNat, _, fun j => IntPhi (((List.range n.toNat).take j).map fun j => landOf n i j), fun _ => true, _, _, src_range rfl R1 (by rcases hn with rfl | rfl <;> decide) (by rcases hn with rfl | rfl <;> decide) (fun C => by rfl) (fun C => rfl) (fun C => by rfl), ⟨?_, ?_, ?_, ?_, ?_⟩, F1, N1, ?_⟩
    · intro j ys objs h
      rw [h.len, List.length_map, List.length_take, List.length_range, sizeLine_eq]
      omega
    · exact ⟨rfl, .nil⟩
    · intro j ys objs _ e
      cases e
    · intro base2 C2 j hk hj
      exact testOk_nil
    · intro base2 C2 j hk hj _
      have hc2 : base2.IsCell (L + 1) (some (.int n t)) := by
        obtain ⟨o, ho, hdo⟩ := hc1
        exact ⟨o, hk _ _ id (F1.keep _ _ ho), hdo⟩
      have hcd : base2.IsCell d (some (.float (hueOf n i) tx)) := ⟨od, hk _ _ id (N1 _ (.head _)).1, hdd⟩
      have X2 := (Xb.keeps F1.keep).keeps fun b o e => hk b o id e
      have T2 := (Tb.keeps F1.keep).keeps fun b o e => hk b o id e
      have B2 := below_kp (below_kp Bb (fun b o _ e => F1.keep b o e)) hk
      clear F1 N1 hk hc1 Xb Tb Bb
      rintro s8 m8 news8 E8 F8 N8 ⟨tj, hm8⟩
      repeat' (first | walk1 | (dsimp only; walk1))
      refine (hue w mean mg mb _ (Float64.add (hueOf n i) (stepF n j)) _ (hueOk_add hn hi' hj)).useC B2 F8 X2 N8 T2 ?_ ?_ fun r h' tk' hp F' N' => ?_
      · omega
      · omega
      obtain ⟨t', rfl⟩ := hp
      repeat' (first | (k_unfold; (try dsimp only)) | walk1 | (dsimp only; walk1))
      all_goals first
        | exact absurd ‹Float64.isNaN _ = true› (land_ok hn hi' hj).1
        | exact absurd ‹Float64.isInf _ = true› (land_ok hn hi' hj).2.1
        | exact eltEnd_int (by assumption) (by assumption) (by rw [take_map_snoc _ (List.getElem?_range hj)]; rfl)
    · intro R h' tk ys' objs F' N' hnew hΦ
      obtain ⟨rfl, hys⟩ := hΦ
      rw [List.take_of_length_le (by rw [List.length_range]; exact Nat.le_refl _)] at hys
      refine ⟨h', tk, [(R, lstO ys' ys'.length)], rfl, F', fun q hq => ?_, fun p hp q hq e => ?_, fun ys2 objs2 h2 => ?_⟩
      · rcases List.mem_cons.mp hq with rfl | hq
        · exact N' _ (.head _)
        · exact N' _ (.tail _ (.tail _ hq))
      · rw [List.mem_singleton.mp hp] at e
        have := (N1 q (.tail _ hq)).1
        rw [← e] at this
        rw [hnew.1] at this
        cases this
      · have hg : (landsOf n)[i]? = some ((List.range n.toNat).map fun j => landOf n i j) := by
          unfold landsOf
          rw [List.getElem?_map, List.getElem?_range hi']
          rfl
        have e : (landsOf n).take (i + 1) = (landsOf n).take i ++ [(List.range n.toNat).map fun j => landOf n i j] := by
          rw [List.take_add_one, hg]; rfl
        rw [e]
        exact h2.snoc ⟨ys', _, rfl, hys⟩
  · intro R h' tk ys' rl F' N' hnew hΦ
    rw [show ys.toArray.size = n.toNat by rw [List.size_toArray, hy.length, List.length_map, List.length_range], ← hL, List.take_length] at hΦ
    have hm4 : (L + 4, o4) ∈ (R, lstO ys' ys'.length) :: (rl ++ ((H, lstO ys k) :: news)) := .tail _ (List.mem_append.mpr (.inr (.tail _ hc4)))
    refine stCell F' N' (c := L + 4) (oc := o4) hm4 d4 (by rfl) (by rfl) (by rfl) fun h2 o F2 hd2 Nc Nk => ?_
    repeat' (first | walk1 | (dsimp only; walk1))
    refine ret h2 _ R ys' rl o F2 (news_cons (Nk _ (.head _) (notCell N' (.head _) hm4 d4)) (news_cons Nc fun q hq => ?_)) hd2 hΦ
    rcases List.mem_append.mp hq with hq | hq
    · refine Nk q (.tail _ (List.mem_append.mpr (.inl hq))) (fun e => ?_) _ (.head _)
      have z1 := (hnew.2 q hq).1
      rw [e] at z1
      have z2 := (N _ (.tail _ hc4)).1
      rw [z1] at z2
      cases z2
    · have hq2 := List.mem_filter.mp hq
      exact Nk q (.tail _ (List.mem_append.mpr (.inr (.tail _ hq2.1)))) (by simpa using hq2.2) _ (.head _)
end
def rowsOf (ts : List Int) : List (List Int) := (orders (ts.drop 1)).map fun r => ts.take 1 ++ r
section
variable {w : World} {mean : ExcName → Option Value} {mg mb : Str → Option Value} {s : Shared} {h₀ base : Heap} {L fa l D H : Addr} {cd : Value} {m : Str → Option Value} {dp un : Nat} {gd : Option (List Code)} {A₀ : Around} {Q : Flow → Shared → Prop} {vs ys : List Value} {ns ts : List Int} {n : Int} {t : Tok} {o1 o2 o3 o4 : Obj} {k : Nat} {v2 v4 : Option Value} {news : Led}
theorem Tel.useL {k : Nat} {f : Addr} {vs : List Value} {kw : List (Str × Value)} {post : Value → Heap → Prop} {outs : List Env} {Q E : Value → Shared → Prop} (C : Tel k w mean mg mb f vs kw post s) (B : Below (AK dp un gd outs) base outs s.heap) (F : Fr h₀ L s.heap m) (X : (hd.heap_39 w.params).In h₀) (N : News h₀ L s.heap news) (T : Top hd.view_39 lz mean mg mb h₀) (hdp : dp + k < recursionLimit) (hu : un + 10 * k < cLine)
    (ret : ∀ r h' tk', (∀ b o, s.heap.get? b = some o → h'.get? b = some o) → post r h' → Fr h₀ L h' m → News h₀ L h' news → Q r { s with heap := h', toks := tk' }) :
    wpAny (model prg w) (AK dp un gd outs) (call (.ref f) vs kw) Q E s :=
  C dp un gd outs base Q E B (X.keeps F.keep) (T.keeps F.keep) hdp hu fun r h' tk' st hp => ret r h' tk' st hp (F.grownK st) (N.grown st)
theorem st7 (hn : n = 4 ∨ n = 5) (B : ∀ h m, Fr h₀ L h m → Below (AK dp un gd [lenv L fa cd]) base [lenv L fa cd] h) (hdp : dp + 40 < recursionLimit) (hun : un + 400 < cLine) (X : (hd.heap_39 w.params).In h₀) (T : Top hd.view_39 lz mean mg mb h₀) (F : Fr h₀ L s.heap m) (N : News h₀ L s.heap ((D, lstO ys k) :: (L + 3, o3) :: news)) (d3 : o3.data = .cell (some (.ref D)))
    (hy : IntsAre ys ts) (hts : ts.length = n.toNat)
    (ret : ∀ h' tk R ys' rl, Fr h₀ L h' (fun z => if z = Str.ofString "rows" then some (.ref R) else m z) → News h₀ L h' ((R, lstO ys' ys'.length) :: (rl ++ (D, lstO ys k) :: (L + 3, o3) :: news)) → RelR ys' rl (rowsOf ts) → Q .next { s with heap := h', toks := tk }) :
    wpAny (model prg w) (AK dp un gd [lenv L fa cd]) (exec (lawS 6) (lenv L fa cd)) Q Ef s := by
  rw [show lenv L fa cd = envOfC (Str.ofString "law") (Scope.mk _ _ _ _ _) L fa cd from rfl] at *
  rw [show lawS 6 = Stmt.Assign [Expr.Name _ _] (Expr.ListComp _ [Comprehension.mk _ _ _ _] _ _) _ from rfl]
  refine assign1 (h₀ := h₀) (by with_unfolding_all rfl) (by with_unfolding_all rfl) (by decide) (by rfl) (by decide) (by rfl) (by rfl) ?_
  have ht5 : ts.length ≤ 5 := by omega
  have hy5 : ys.length ≤ 5 := by rw [hy.length]; exact ht5
  repeat ((fail_if_success (with_reducible show wpAny _ _ (call (Value.ref _) _ _) _ _ _)); first | walk1 | (dsimp only; walk1))
  rename Fr _ _ _ _ => F1
  rename News _ _ _ _ => N1
  rename IntsAre _ (List.drop 1 ts) => I1
  have hd4 : (ts.drop 1).length ≤ 4 := by rw [List.length_drop]; omega
  refine (ordersC w mean mg mb _ _ _ _ ⟨_, (N1 _ (.head _)).1, rfl, _, rfl⟩ I1 hd4).useL (B _ _ F1) F1 X N1 T (by omega) (by omega) fun r h2 tk2 hkp hp F2 N2 => ?_
  obtain ⟨R, ys2, k2, rl, rfl, hR, hRn, hrl, hrel⟩ := hp
  have hol : (orders (ts.drop 1)).length ≤ 24 ∧ ∀ r ∈ orders (ts.drop 1), r.length = (ts.drop 1).length := by
    have := orders_len (ts.drop 1) (ts.drop 1).length (Nat.le_refl _) hd4
    rwa [List.take_length] at this
  try dsimp only
  repeat ((fail_if_success (refine ⟨?_, ?_, ?_, ?_, ?_, ?_, ?_⟩)); first | k_unfold | dsimp only)
  refine ⟨_, _, fun i ys' objs => RelR ys' objs (((orders (ts.drop 1)).take i).map fun r => ts.take 1 ++ r), fun _ => true, m, (D, lstO ys k) :: (L + 3, o3) :: news, src_list rfl ⟨_, hR, rfl, _, rfl⟩ (fun C => by rfl) (fun C => rfl) (fun C => by rfl), ⟨?_, RelR.nil, ?_, ?_, ?_⟩, F2, fun q hq => N2 q (.tail _ hq), ?_⟩
  · intro i ys' objs h
    rw [h.len, List.length_map, List.length_take, sizeLine_eq]
    omega
  · intro i ys' objs _ e
    cases e
  · intro base' C i hk hi'
    exact testOk_nil
  · intro base' C i hk hi' _
    have hD : base'.IsList D ys.toArray := ⟨_, hk _ _ id (N2 _ (.tail _ (.head _))).1, rfl, _, rfl⟩
    have hc3 : base'.IsCell (L + 3) (some (.ref D)) := ⟨_, hk _ _ id (N2 (L + 3, o3) (.tail _ (.tail _ (.head _)))).1, d3⟩
    have Xb := (X.keeps F2.keep).keeps fun b o e => hk b o id e
    have Tb := (T.keeps F2.keep).keeps fun b o e => hk b o id e
    rintro s9 m9 news9 E9 F9 N9 ⟨v9, hv9, hm9⟩
    obtain ⟨a, vs', n', r, rfl, hm, hiv, hr⟩ := hrel.get (i := i) (by simpa using hv9)
    have hla : base'.IsList a vs'.toArray := ⟨_, hk _ _ id (hrl _ hm).1, rfl, _, rfl⟩
    have hr4 := hol.2 r (List.mem_of_getElem? hr)
    have hv4 : vs'.length ≤ 4 := by rw [hiv.length, hr4]; exact hd4
    rw [take_map_snoc _ hr]
    clear ret F1 N1 F2 N2 hkp hk hR hRn hrl hrel hm B X T
    repeat' (first | walk1 | (dsimp only; walk1))
    rename News _ _ _ _ => N7
    rename Fr _ _ _ _ => F7
    rename IntsAre _ (_ ++ _) => I7
    rename _ ∧ AllLt _ news9 => l7
    refine eltEnd_of (mid := [_]) F7 N7 l7.2 ?_
    intro ys' objs hΦ
    exact hΦ.snoc ⟨_, 0, rfl, I7⟩
  · intro R' h' tk ys' objs F' N' hΦ
    refine ret h' _ R' ys' objs F' N' ?_
    have e : ys2.toArray.size = (orders (ts.drop 1)).length := by rw [List.size_toArray, hrel.len]
    rw [e, List.take_length] at hΦ
    exact hΦ
end
/-! the rows, as a pure matter -/
theorem orders_mem (ts : List Int) : ∀ r ∈ orders ts, ∀ x ∈ r, x ∈ ts := by
  have step : ∀ (us : List Int) (rows : List (List Int)) (ws : List Int), (∀ r ∈ rows, ∀ x ∈ r, x ∈ ws) → ∀ r ∈ us.foldl ostep rows, ∀ x ∈ r, x ∈ ws ++ us := by
    intro us
    induction us with
    | nil => intro rows ws h r hr x hx; simpa using h r hr x hx
    | cons u us ih =>
      intro rows ws h r hr x hx
      have := ih (ostep rows u) (ws ++ [u]) (fun r' hr' y hy => ?_) r hr x hx
      · simpa using this
      · unfold ostep at hr'
        obtain ⟨r0, hr0, hm⟩ := List.mem_flatMap.mp hr'
        simp only [ins, List.mem_map, List.mem_range] at hm
        obtain ⟨k, hk, rfl⟩ := hm
        rcases List.mem_append.mp hy with hy | hy
        · rcases List.mem_append.mp hy with hy | hy
          · exact List.mem_append.mpr (.inl (h r0 hr0 y (List.mem_of_mem_take hy)))
          · exact List.mem_append.mpr (.inr hy)
        · exact List.mem_append.mpr (.inl (h r0 hr0 y (List.mem_of_mem_drop hy)))
  intro r hr x hx
  have := step ts [[]] [] (fun r hr x hx => by rw [List.mem_singleton.mp hr] at hx; exact hx) r hr x hx
  simpa using this
theorem rowsOf_ok {ts : List Int} {n : Nat} (hn : ts.length = n) (h5 : n ≤ 5) (h1 : 1 ≤ n) : (rowsOf ts).length ≤ 24 ∧ ∀ r ∈ rowsOf ts, r.length = n ∧ ∀ x ∈ r, x ∈ ts := by
  have hd4 : (ts.drop 1).length ≤ 4 := by rw [List.length_drop]; omega
  have hol := orders_len (ts.drop 1) (ts.drop 1).length (Nat.le_refl _) hd4
  rw [List.take_length] at hol
  refine ⟨by unfold rowsOf; rw [List.length_map]; exact hol.1, fun r hr => ?_⟩
  unfold rowsOf at hr
  obtain ⟨r0, hr0, rfl⟩ := List.mem_map.mp hr
  have h2 := hol.2 r0 hr0
  refine ⟨by rw [List.length_append, h2, List.length_take, List.length_drop]; omega, fun x hx => ?_⟩
  rcases List.mem_append.mp hx with hx | hx
  · exact List.mem_of_mem_take hx
  · exact List.mem_of_mem_drop (orders_mem _ _ hr0 x hx)
/-- where the throws of a row land -/
def dOf (n : Int) (r : List Int) (i : Nat) : Int := landOf n i (r.getD i 0).toNat
def apB (n : Int) (r : List Int) : Bool := decide (((List.range r.length).map (dOf n r)).Nodup)
/-- the values whose rows a test takes -/
def selV (f : List Int → Bool) (ps : List (Value × List Int)) : List Value := (ps.filter fun p => f p.2).map (·.1)
theorem selV_snoc (f : List Int → Bool) {ps : List (Value × List Int)} {i : Nat} {p : Value × List Int} (h : ps[i]? = some p) : selV f (ps.take (i + 1)) = selV f (ps.take i) ++ (if f p.2 = true then [p.1] else []) := by
  unfold selV
  rw [List.take_add_one, h, List.filter_append, List.map_append]
  congr 1
  by_cases hf : f p.2 = true <;> simp [hf]
theorem selV_len (f : List Int → Bool) (ps : List (Value × List Int)) : (selV f ps).length ≤ ps.length := by
  unfold selV
  rw [List.length_map]
  exact List.length_filter_le _ _
section
variable {w : World} {mean : ExcName → Option Value} {mg mb : Str → Option Value} {s : Shared} {h₀ base : Heap} {L fa l D H R LL : Addr} {cd : Value} {m : Str → Option Value} {dp un : Nat} {gd : Option (List Code)} {A₀ : Around} {Q : Flow → Shared → Prop} {vs ys rys lys : List Value} {ns ts : List Int} {n : Int} {t : Tok} {o1 o2 o3 o4 : Obj} {k kR kL : Nat} {v2 v4 : Option Value} {news rl lrl : Led}
theorem st8 (hn : n = 4 ∨ n = 5) (B : ∀ h m, Fr h₀ L h m → Below (AK dp un gd [lenv L fa cd]) base [lenv L fa cd] h) (hdp : dp + 60 < recursionLimit) (hun : un + 600 < cLine) (X : (hd.heap_39 w.params).In h₀) (T : Top hd.view_39 lz mean mg mb h₀) (F : Fr h₀ L s.heap m) (N : News h₀ L s.heap news)
    (hR : (R, lstO rys kR) ∈ news) (hrl : ∀ p ∈ rl, p ∈ news) (hrel : RelR rys rl (rowsOf ts)) (hLL : (LL, lstO lys kL) ∈ news) (hlrl : ∀ p ∈ lrl, p ∈ news) (hlrel : RelR lys lrl (landsOf n)) (hc4 : (L + 4, o4) ∈ news) (d4 : o4.data = .cell (some (.ref LL)))
    (hm : m (Str.ofString "rows") = some (.ref R)) (hts : ts.length = n.toNat) (htn : ∀ x ∈ ts, 0 ≤ x ∧ x < n)
    (ret : ∀ h' tk A, Fr h₀ L h' (fun z => if z = Str.ofString "apart" then some (.ref A) else m z) → News h₀ L h' ((A, lstO (selV (apB n) (rys.zip (rowsOf ts))) (selV (apB n) (rys.zip (rowsOf ts))).length) :: news) → Q .next { s with heap := h', toks := tk }) :
    wpAny (model prg w) (AK dp un gd [lenv L fa cd]) (exec (lawS 7) (lenv L fa cd)) Q Ef s := by
  rw [show lenv L fa cd = envOfC (Str.ofString "law") (Scope.mk _ _ _ _ _) L fa cd from rfl] at *
  rw [show lawS 7 = Stmt.Assign [Expr.Name _ _] (Expr.ListComp _ [Comprehension.mk _ _ [_] _] _ _) _ from rfl]
  refine assign1 (h₀ := h₀) (by with_unfolding_all rfl) (by with_unfolding_all rfl) (by decide) (by rfl) (by decide) (by rfl) (by rfl) ?_
  walk1
  have hok := rowsOf_ok hts (by omega) (by omega)
  have hzl : (rys.zip (rowsOf ts)).length ≤ 24 := by rw [List.length_zip, hrel.len, Nat.min_self]; exact hok.1
  refine ⟨_, _, fun i ys' objs => objs = [] ∧ ys' = selV (apB n) ((rys.zip (rowsOf ts)).take i), fun i => apB n ((rowsOf ts).getD i []), m, news, src_list rfl ⟨_, (N _ hR).1, rfl, _, rfl⟩ (fun C => by rfl) (fun C => rfl) (fun C => by rfl), ⟨?_, ⟨rfl, rfl⟩, ?_, ?_, ?_⟩, F, N, ?_⟩
  · rintro i ys' objs ⟨_, rfl⟩
    have := selV_len (apB n) ((rys.zip (rowsOf ts)).take i)
    rw [List.length_take] at this
    rw [sizeLine_eq]
    omega
  · rintro i ys' objs hi hf ⟨rfl, rfl⟩
    have hi2 : i < rys.length := by simpa using hi
    have hi3 : i < (rowsOf ts).length := by rw [← hrel.len]; exact hi2
    have hz : (rys.zip (rowsOf ts))[i]? = some (rys[i], (rowsOf ts)[i]) := by rw [List.getElem?_eq_getElem (by rw [List.length_zip]; omega), List.getElem_zip]
    have hf' : apB n (rowsOf ts)[i] = false := by rw [List.getD_eq_getElem?_getD, List.getElem?_eq_getElem hi3] at hf; exact hf
    refine ⟨rfl, ?_⟩
    rw [selV_snoc _ hz, hf']
    simp
  · intro base' C i hk hi
    refine testOk_one fun s9 m9 news9 E9 F9 N9 hb9 => ?_
    obtain ⟨v9, hv9, hm9⟩ := id hb9
    obtain ⟨a, vs', n', r, rfl, hmr, hiv, hr⟩ := hrel.get (i := i) (by simpa using hv9)
    have hc : base'.IsCell (L + 4) (some (.ref LL)) := ⟨_, hk _ _ id (N _ hc4).1, d4⟩
    have Xb := (X.keeps F.keep).keeps fun b o e => hk b o id e
    have Tb := (T.keeps F.keep).keeps fun b o e => hk b o id e
    have Bb := below_kp (B _ _ F) hk
    have ok := hok.2 r (List.mem_of_getElem? hr)
    have hla : s9.heap.IsList a vs'.toArray := ⟨_, F9.keep _ _ (hk _ _ id (N _ (hrl _ hmr)).1), rfl, _, rfl⟩
    have hll : s9.heap.IsList LL lys.toArray := ⟨_, F9.keep _ _ (hk _ _ id (N _ hLL).1), rfl, _, rfl⟩
    have hvl : vs'.toArray.size = r.length := by rw [List.size_toArray, hiv.length]
    have hd : ∀ i' x, vs'.toArray[i']? = some x → ∃ (q : Int) (u : Tok) (a : Addr) (v : List Value) (g : List Int), x = .int q u ∧ lys.toArray[i']? = some (.ref a) ∧ s9.heap.IsList a v.toArray ∧ IntsAre v g ∧ 0 ≤ q ∧ q < g.length ∧ g.length ≤ 5 ∧ g.getD q.toNat 0 = dOf n r i' ∧ Dig (dOf n r i') := fun i' x hx => by
      obtain ⟨q, u, rfl, hq⟩ := ints_get hiv (i := i') (by simpa using hx)
      have hi' : i' < n.toNat := by
        obtain ⟨h1, _⟩ := List.getElem?_eq_some_iff.mp hq
        omega
      have hqb := htn q (ok.2 q (List.mem_of_getElem? hq))
      have hL : (landsOf n).length = n.toNat := by unfold landsOf; rw [List.length_map, List.length_range]
      have hlx : i' < lys.length := by rw [hlrel.len, hL]; exact hi'
      obtain ⟨a2, vs2, n2, g, e2, hm2, I2, hg⟩ := hlrel.get (List.getElem?_eq_getElem hlx)
      have hg' : g = (List.range n.toNat).map fun j => landOf n i' j := by
        unfold landsOf at hg
        rw [List.getElem?_map, List.getElem?_range hi'] at hg
        exact (Option.some.inj hg).symm
      have hqn : q.toNat < n.toNat := by omega
      have hgl : g.length = n.toNat := by rw [hg', List.length_map, List.length_range]
      have hqd : r.getD i' 0 = q := by rw [List.getD_eq_getElem?_getD, hq]; rfl
      have hgd : g.getD q.toNat 0 = dOf n r i' := by
        unfold dOf
        rw [hqd, hg', List.getD_eq_getElem?_getD, List.getElem?_map, List.getElem?_range hqn]
        rfl
      refine ⟨q, u, a2, vs2, g, rfl, ?_, ⟨_, F9.keep _ _ (hk _ _ id (N _ (hlrl _ hm2)).1), rfl, _, rfl⟩, I2, hqb.1, by omega, by omega, hgd, ?_⟩
      · rw [← e2]
        simp [hlx]
      · unfold dOf
        rw [hqd, (land_ok hn hi' hqn).2.2]
        have : (i' + q.toNat) % n.toNat < n.toNat := Nat.mod_lt _ (by omega)
        unfold Dig
        omega
    clear ret
    repeat ((fail_if_success (with_reducible show wpAny _ _ (call (Value.ref _) _ _) _ _ _)); first | walk1 | (dsimp only; walk1))
    refine (apartC w mean mg mb s9 a LL vs'.toArray lys.toArray (dOf n r) hla (by rw [hvl]; omega) hll hd).useC Bb F9 Xb N9 Tb (by omega) (by omega) fun rv h2 tk2 hp F2 N2 => ?_
    subst hp
    have hb : apB n ((rowsOf ts).getD i []) = decide (((List.range vs'.toArray.size).map (dOf n r)).Nodup) := by
      rw [List.getD_eq_getElem?_getD, hr, hvl]; rfl
    repeat' (first | (k_unfold; (try dsimp only)) | walk1 | (dsimp only; walk1))
    exact ⟨hb.symm, h2, tk2, rfl, F2, N2, hb9⟩
  · intro base' C i hk hi ht
    rintro s9 m9 news9 E9 F9 N9 ⟨v9, hv9, hm9⟩
    have hi2 : i < rys.length := by simpa using hi
    have hi3 : i < (rowsOf ts).length := by rw [← hrel.len]; exact hi2
    have hz : (rys.zip (rowsOf ts))[i]? = some (rys[i], (rowsOf ts)[i]) := by rw [List.getElem?_eq_getElem (by rw [List.length_zip]; omega), List.getElem_zip]
    have hf' : apB n (rowsOf ts)[i] = true := by
      have ht' := ht
      simp only [List.getD_eq_getElem?_getD, List.getElem?_eq_getElem hi3] at ht'
      exact ht'
    have hv : rys[i] = v9 := by
      have e : rys[i]? = some v9 := by simpa using hv9
      rw [List.getElem?_eq_getElem hi2] at e
      exact Option.some.inj e
    refine ldOwn F9 hm9 ?_ (by rfl) (by rfl)
    refine ⟨s9.heap, s9.toks, [], rfl, F9, N9, (fun _ hp => nomatch hp), ?_⟩
    rintro ys' objs ⟨rfl, rfl⟩
    refine ⟨rfl, ?_⟩
    rw [selV_snoc _ hz, hf', hv]
    rfl
  · intro A h' tk ys' objs F' N' hΦ
    obtain ⟨rfl, rfl⟩ := hΦ
    have e : rys.toArray.size = (rys.zip (rowsOf ts)).length := by rw [List.size_toArray, List.length_zip, hrel.len, Nat.min_self]
    rw [e, List.take_length] at N'
    exact ret h' _ A F' N'
end
section
variable {w : World} {mean : ExcName → Option Value} {mg mb : Str → Option Value} {s : Shared} {h₀ base : Heap} {L fa l D H R LL Ap : Addr} {cd : Value} {m : Str → Option Value} {dp un : Nat} {gd : Option (List Code)} {A₀ : Around} {Q : Flow → Shared → Prop} {vs ys rys lys avs : List Value} {ns ts : List Int} {n : Int} {t : Tok} {o1 o2 o3 o4 : Obj} {k kR kL kA : Nat} {v2 v4 : Option Value} {news rl lrl : Led} {arows : List (List Int)}
/-- the rows' objects stand in the ledger -/
def RowsLed (news : Led) (vs : List Value) (rows : List (List Int)) : Prop := Paired (fun v r => ∃ a xs n, v = Value.ref a ∧ (a, lstO xs n) ∈ news ∧ IntsAre xs r) vs rows
theorem RowsLed.at {h₀ h : Heap} {L : Addr} {news : Led} {vs : List Value} {rows : List (List Int)} (P : RowsLed news vs rows) (N : News h₀ L h news) : RowsAre h vs rows := by
  induction P with
  | nil => exact .nil
  | cons r _ ih =>
    obtain ⟨a, xs, n, rfl, hm, hi⟩ := r
    exact .cons ⟨a, rfl, xs, n, (N _ hm).1, hi⟩ ih
theorem RowsLed.mono {news news' : Led} {vs : List Value} {rows : List (List Int)} (P : RowsLed news vs rows) (h : ∀ p ∈ news, p ∈ news') : RowsLed news' vs rows := by
  induction P with
  | nil => exact .nil
  | cons r _ ih =>
    obtain ⟨a, xs, n, rfl, hm, hi⟩ := r
    exact .cons ⟨a, xs, n, rfl, h _ hm, hi⟩ ih
theorem st9 (hn : n = 4 ∨ n = 5) (hun : un + 600 < cLine) (X : (hd.heap_39 w.params).In h₀) (T : Top hd.view_39 lz mean mg mb h₀) (F : Fr h₀ L s.heap m) (N : News h₀ L s.heap ((Ap, lstO avs kA) :: (D, lstO ys k) :: (L + 3, o3) :: (L + 1, o1) :: news))
    (d1 : o1.data = .cell (some (.int n t))) (d3 : o3.data = .cell (some (.ref D))) (hy : IntsAre ys ts) (hts : ts.length = n.toNat) (hra : RowsLed news avs arows)
    (hm : m (Str.ofString "apart") = some (.ref Ap)) (hP : arows = [] ↔ ts.sum.fmod n ≠ 0)
    (ret : ∀ h' tk, Fr h₀ L h' m → News h₀ L h' ((Ap, lstO avs kA) :: (D, lstO ys k) :: (L + 3, o3) :: (L + 1, o1) :: news) → Q .next { s with heap := h', toks := tk }) :
    wpAny (model prg w) (AK dp un gd [lenv L fa cd]) (exec (lawS 8) (lenv L fa cd)) Q Ef s := by
  rw [show lenv L fa cd = envOfC (Str.ofString "law") (Scope.mk _ _ _ _ _) L fa cd from rfl] at *
  rw [show lawS 8 = Stmt.If (Expr.Compare (Expr.Compare _ _ _ _) _ _ _) _ _ _ from rfl]
  have hy5 : ys.length ≤ 5 := by rw [hy.length]; omega
  repeat ((fail_if_success (with_reducible show wpAny _ _ (compareOp CmpOp.NotEq (Value.ref _) (Value.ref _)) _ _ _)); first | walk1 | (dsimp only; walk1))
  rename Fr _ _ _ _ => F1
  rename News _ _ _ _ => N1
  refine ne_rows (ra := arows) (rb := []) (N1 _ (.tail _ (.head _))).1 (N1 _ (.head _)).1 (hra.at fun p hp => N1 p (.tail _ (.tail _ (.tail _ (.tail _ (.tail _ hp)))))) .nil (by show un + 64 < cLine; omega) ?_
  repeat' (first | walk1 | (dsimp only; walk1))
  · exfalso
    rename _ = true => hq
    clear ret
    by_cases h1 : arows = []
    · have h2 := hP.mp h1
      simp [h1, h2] at hq
    · have h2 : ts.sum.fmod n = 0 := Decidable.not_not.mp fun h => h1 (hP.mpr h)
      simp [h1, h2] at hq
  · exact ret _ _ (by assumption) fun p hp => (by assumption : News _ _ _ _) p (.tail _ hp)
end
/-- the stops that a row's throws lead to, by remainders -/
def digs (n : Int) (r : List Int) : List Int := (List.range r.length).map fun i : Nat => ((i : Int) + r.getD i 0).fmod n
theorem digs_len (n : Int) (r : List Int) : (digs n r).length = r.length := by unfold digs; rw [List.length_map, List.length_range]
theorem digs_bound {n : Int} (hn : 0 < n) (r : List Int) : ∀ x ∈ digs n r, 0 ≤ x ∧ x < n := by
  intro x hx
  unfold digs at hx
  obtain ⟨i, _, rfl⟩ := List.mem_map.mp hx
  exact ⟨Int.fmod_nonneg_of_pos _ hn, Int.fmod_lt_of_pos _ hn⟩
theorem dOf_digs {n : Int} (hn : n = 4 ∨ n = 5) {r : List Int} (hl : r.length = n.toNat) (hb : ∀ x ∈ r, 0 ≤ x ∧ x < n) : (List.range r.length).map (dOf n r) = digs n r := by
  unfold digs
  refine List.map_congr_left fun i hi => ?_
  have hi' : i < r.length := List.mem_range.mp hi
  have hx := hb (r.getD i 0) (by rw [List.getD_eq_getElem?_getD, List.getElem?_eq_getElem hi']; exact List.getElem_mem hi')
  unfold dOf
  rw [(land_ok hn (by omega) (by omega : (r.getD i 0).toNat < n.toNat)).2.2]
  generalize r.getD i 0 = x at hx
  have e := Int.fmod_eq_emod_of_nonneg ((i : Int) + x) (show (0 : Int) ≤ n by omega)
  rw [e]
  rcases hn with rfl | rfl
  · rw [show Int.toNat 4 = 4 from rfl]; omega
  · rw [show Int.toNat 5 = 5 from rfl]; omega
theorem sorted_range {n : Int} (hn : n = 4 ∨ n = 5) {ds ns : List Int} (p : ns.Perm ds) (o : ns.Pairwise (· ≤ ·)) (hl : ds.length = n.toNat) (hb : ∀ x ∈ ds, 0 ≤ x ∧ x < n) : ns = rangeKs 0 (n - 0).toNat ↔ ds.Nodup := by
  rw [← p.nodup_iff]
  have hb' : ∀ x ∈ ns, 0 ≤ x ∧ x < n := fun x hx => hb x (p.mem_iff.mp hx)
  have hl' : ns.length = n.toNat := p.length_eq.trans hl
  clear p hb hl
  rcases hn with rfl | rfl
  · match ns, hl' with
    | [a, b, c, d], _ =>
      have e : rangeKs 0 ((4 : Int) - 0).toNat = [0, 1, 2, 3] := by decide
      rw [e]
      have ha := hb' a (by simp)
      have hbb := hb' b (by simp)
      have hc := hb' c (by simp)
      have hd := hb' d (by simp)
      simp only [List.pairwise_cons, List.mem_cons, List.not_mem_nil, or_false, forall_eq_or_imp, forall_eq, List.cons.injEq, and_true, List.Nodup] at o ⊢
      constructor
      · rintro ⟨rfl, rfl, rfl, rfl⟩; simp
      · intro h
        simp at h
        omega
  · match ns, hl' with
    | [a, b, c, d, f], _ =>
      have e : rangeKs 0 ((5 : Int) - 0).toNat = [0, 1, 2, 3, 4] := by decide
      rw [e]
      have ha := hb' a (by simp)
      have hbb := hb' b (by simp)
      have hc := hb' c (by simp)
      have hd := hb' d (by simp)
      have hf := hb' f (by simp)
      simp only [List.pairwise_cons, List.mem_cons, List.not_mem_nil, or_false, forall_eq_or_imp, forall_eq, List.cons.injEq, and_true, List.Nodup] at o ⊢
      constructor
      · rintro ⟨rfl, rfl, rfl, rfl, rfl⟩; simp
      · intro h
        simp at h
        omega
section
variable {w : World} {mean : ExcName → Option Value} {mg mb : Str → Option Value} {s : Shared} {h₀ base : Heap} {L fa l D H R LL Ap : Addr} {cd : Value} {m : Str → Option Value} {dp un : Nat} {gd : Option (List Code)} {A₀ : Around} {Q : Flow → Shared → Prop} {vs ys rys lys avs : List Value} {ns ts : List Int} {n : Int} {t : Tok} {o1 o2 o3 o4 : Obj} {k kR kL kA : Nat} {v2 v4 : Option Value} {news rl lrl : Led} {arows : List (List Int)}
theorem st10 (hn : n = 4 ∨ n = 5) (B : ∀ h m, Fr h₀ L h m → Below (AK dp un gd [lenv L fa cd]) base [lenv L fa cd] h) (hdp : dp + 60 < recursionLimit) (hun : un + 600 < cLine) (X : (hd.heap_39 w.params).In h₀) (T : Top hd.view_39 lz mean mg mb h₀) (F : Fr h₀ L s.heap m) (N : News h₀ L s.heap ((Ap, lstO avs kA) :: news))
    (hR : (R, lstO rys kR) ∈ news) (hrl : ∀ p ∈ rl, p ∈ news) (hrel : RelR rys rl (rowsOf ts)) (hc1 : (L + 1, o1) ∈ news) (d1 : o1.data = .cell (some (.int n t))) (hav : avs = selV (apB n) (rys.zip (rowsOf ts))) (hra : RowsLed news avs arows)
    (hm : m (Str.ofString "rows") = some (.ref R)) (hma : m (Str.ofString "apart") = some (.ref Ap)) (hts : ts.length = n.toNat) (htn : ∀ x ∈ ts, 0 ≤ x ∧ x < n)
    (ret : ∀ h' tk, Fr h₀ L h' m → News h₀ L h' ((Ap, lstO avs kA) :: news) → Q .next { s with heap := h', toks := tk }) :
    wpAny (model prg w) (AK dp un gd [lenv L fa cd]) (exec (lawS 9) (lenv L fa cd)) Q Ef s := by
  rw [show lenv L fa cd = envOfC (Str.ofString "law") (Scope.mk _ _ _ _ _) L fa cd from rfl] at *
  rw [show lawS 9 = Stmt.If (Expr.Compare _ _ [Expr.ListComp _ [Comprehension.mk _ _ [Expr.Compare (Expr.Call _ [Expr.ListComp _ [Comprehension.mk (Expr.Tuple [Expr.Name _ _, Expr.Name _ _] _ _) _ _ _] _ _] _ _) _ _ _] _] _ _] _) _ _ _ from rfl]
  repeat ((fail_if_success (with_reducible show wpAny _ _ (eval (Expr.ListComp _ _ _ _) _) _ _ _)); first | walk1 | (dsimp only; walk1))
  have hok := rowsOf_ok hts (by omega) (by omega)
  have hzl : (rys.zip (rowsOf ts)).length ≤ 24 := by rw [List.length_zip, hrel.len, Nat.min_self]; exact hok.1
  refine listCompN (h₀ := h₀) (L := L) (by with_unfolding_all rfl) (by decide) (by rfl) (by decide) ?_
  walk1
  have N0 : News h₀ L s.heap news := fun p hp => N p (.tail _ hp)
  refine ⟨_, _, fun i ys' objs => objs = [] ∧ ys' = selV (apB n) ((rys.zip (rowsOf ts)).take i), fun i => apB n ((rowsOf ts).getD i []), m, (Ap, lstO avs kA) :: news, src_list rfl ⟨_, (N0 _ hR).1, rfl, _, rfl⟩ (fun C => by rfl) (fun C => rfl) (fun C => by rfl), ⟨?_, ⟨rfl, rfl⟩, ?_, ?_, ?_⟩, F, N, ?_⟩
  · rintro i ys' objs ⟨_, rfl⟩
    have := selV_len (apB n) ((rys.zip (rowsOf ts)).take i)
    rw [List.length_take] at this
    rw [sizeLine_eq]
    omega
  · rintro i ys' objs hi hf ⟨rfl, rfl⟩
    have hi2 : i < rys.length := by simpa using hi
    have hi3 : i < (rowsOf ts).length := by rw [← hrel.len]; exact hi2
    have hz : (rys.zip (rowsOf ts))[i]? = some (rys[i], (rowsOf ts)[i]) := by rw [List.getElem?_eq_getElem (by rw [List.length_zip]; omega), List.getElem_zip]
    have hf' : apB n (rowsOf ts)[i] = false := by rw [List.getD_eq_getElem?_getD, List.getElem?_eq_getElem hi3] at hf; exact hf
    refine ⟨rfl, ?_⟩
    rw [selV_snoc _ hz, hf']
    simp
  · intro base' C i hk hi
    refine testOk_one fun s9 m9 news9 E9 F9 N9 hb9 => ?_
    obtain ⟨v9, hv9, hm9⟩ := id hb9
    obtain ⟨a, vs', n', r, rfl, hmr, hiv, hr⟩ := hrel.get (i := i) (by simpa using hv9)
    have hc : base'.IsCell (L + 1) (some (.int n t)) := ⟨_, hk _ _ id (N0 _ hc1).1, d1⟩
    have Xb := (X.keeps F.keep).keeps fun b o e => hk b o id e
    have Tb := (T.keeps F.keep).keeps fun b o e => hk b o id e
    have Bb := below_kp (B _ _ F) hk
    have ok := hok.2 r (List.mem_of_getElem? hr)
    have hla : base'.IsList a vs'.toArray := ⟨_, hk _ _ id (N0 _ (hrl _ hmr)).1, rfl, _, rfl⟩
    clear ret N N0 F
    repeat ((fail_if_success (with_reducible show wpAny _ _ (eval (Expr.ListComp _ _ _ _) _) _ _ _)); first | walk1 | (dsimp only; walk1))
    refine listCompW (h₀ := base') (L := C) (by with_unfolding_all rfl) (by decide) (by rfl) (by decide) ?_
    repeat ((fail_if_success (with_reducible show wpAny _ _ (call (Value.type "enumerate") _ _) _ _ _)); first | walk1 | (dsimp only; walk1))
    have hla9 : s9.heap.IsList a vs'.toArray := hla.at fun o e => F9.keep _ _ e
    refine call_enumerate_list hla9 fun h2 hE hI hsz hk2 => ?_
    have F2 := F9.grownK hk2
    have N2 := N9.grown hk2
    have halt : a < s9.heap.objs.size := by obtain ⟨_, e, _⟩ := hla9; exact Heap.lt_size e
    have hCl : C < s9.heap.objs.size := F9.ns.lt
    have hW : ∀ b, (b = s9.heap.objs.size + 1 ∨ b = s9.heap.objs.size) → s9.heap.get? b = none ∧ b ≠ C ∧ ∀ p ∈ news9, p.1 ≠ b := fun b hb => by
      have hle : s9.heap.objs.size ≤ b := by rcases hb with rfl | rfl; exact Nat.le_succ _; exact Nat.le_refl _
      refine ⟨?_, Nat.ne_of_gt (Nat.lt_of_lt_of_le hCl hle), fun p hp => Nat.ne_of_lt (Nat.lt_of_lt_of_le (Heap.lt_size (N9 p hp).1) hle)⟩
      cases q : s9.heap.get? b with
      | none => rfl
      | some o => exact absurd (Heap.lt_size q) (Nat.not_lt.mpr hle)
    have hdl : (digs n r).length = r.length := by unfold digs; rw [List.length_map, List.length_range]
    repeat ((fail_if_success (refine ⟨?_, ?_, ?_, ?_, ?_, ?_, ?_⟩)); first | k_unfold | dsimp only)
    refine ⟨_, _, _, fun j => IntPhi ((digs n r).take j), fun _ => true, m9, news9, src_enum rfl (by decide) hE hI (hla9.at fun o e => hk2 _ _ e) (Nat.succ_ne_self _) (Nat.ne_of_lt (Nat.lt_succ_of_lt halt)) (Nat.ne_of_lt halt) (fun C => by rfl) (fun C => by rfl) (fun C => rfl) (fun C => by rfl), ⟨?_, ⟨rfl, .nil⟩, ?_, ?_, ?_⟩, F2, N2, fun b hb => ?_, ?_⟩
    · intro j ys' objs h
      rw [h.len, List.length_take, hdl, sizeLine_eq]
      omega
    · intro j ys' objs _ e
      cases e
    · intro base2 C2 j hk3 hj
      exact testOk_nil
    · intro base2 C2 j hk3 hj _
      have hc2 : base2.IsCell (L + 1) (some (.int n t)) := by
        obtain ⟨o, ho, hdo⟩ := hc
        have ho9 := F9.keep _ _ ho
        exact ⟨o, hk3 _ _ (fun hw => by rw [(hW _ hw).1] at ho9; cases ho9) (hk2 _ _ ho9), hdo⟩
      rintro s8 m8 news8 E8 F8 N8 ⟨x, y, ⟨tx, z, hz, hxy⟩, hm1, hm2⟩
      obtain ⟨q, u, rfl, hq⟩ := ints_get hiv (i := j) (by simpa using hz)
      obtain ⟨rfl, rfl⟩ : x = .int j tx ∧ y = .int q u := by simpa using hxy
      clear F9 N9 hk3 hk2 hE hI F2 N2 hW Bb Xb Tb hk hc hla hla9
      repeat' (first | walk1 | (dsimp only; walk1))
      exact eltEnd_int (by assumption) (by assumption) (by
        have hjr : j < r.length := (List.getElem?_eq_some_iff.mp hq).1
        have hg : (digs n r)[j]? = some (((j : Int) + q).fmod n) := by
          unfold digs
          rw [List.getElem?_map, List.getElem?_range hjr]
          show some (((j : Int) + r.getD j 0).fmod n) = _
          rw [List.getD_eq_getElem?_getD, hq]
          rfl
        rw [List.take_add_one, hg]
        rfl)
    · have := hW b hb
      refine ⟨?_, this.2⟩
      cases q : base'.get? b with
      | none => rfl
      | some o => rw [F9.keep _ _ q] at this; exact absurd this.1 (by simp)
    · intro D h' tk ys' objs F' N' hnew hΦ
      obtain ⟨rfl, hys⟩ := hΦ
      rw [show vs'.toArray.size = (digs n r).length by rw [hdl, List.size_toArray, hiv.length], List.take_length] at hys
      repeat' (first | k_unfold | walk1 | (dsimp only; walk1))
      rename List.Perm _ _ => p9
      rename List.Pairwise _ _ => q9
      have hrb : ∀ x ∈ r, 0 ≤ x ∧ x < n := fun x hx => htn x (ok.2 x hx)
      have hb : ∀ b : List Int, b = digs n r → apB n ((rowsOf ts).getD i []) = decide (b.Nodup) := fun b e => by
        rw [e, List.getD_eq_getElem?_getD, hr]
        show apB n r = _
        unfold apB
        rw [dOf_digs hn ok.1 hrb]
      refine ⟨?_, _, _, rfl, by assumption, fun q hq => (by assumption : News base' C _ _) q (.tail _ (.tail _ (.tail _ hq))), hb9⟩
      rw [hb _ rfl]
      exact decide_eq_decide.mpr (sorted_range hn p9 q9 (hdl.trans ok.1) (digs_bound (by omega) r))
  · intro base' C i hk hi ht
    rintro s9 m9 news9 E9 F9 N9 ⟨v9, hv9, hm9⟩
    have hi2 : i < rys.length := by simpa using hi
    have hi3 : i < (rowsOf ts).length := by rw [← hrel.len]; exact hi2
    have hz : (rys.zip (rowsOf ts))[i]? = some (rys[i], (rowsOf ts)[i]) := by rw [List.getElem?_eq_getElem (by rw [List.length_zip]; omega), List.getElem_zip]
    have hf' : apB n (rowsOf ts)[i] = true := by
      have ht' := ht
      simp only [List.getD_eq_getElem?_getD, List.getElem?_eq_getElem hi3] at ht'
      exact ht'
    have hv : rys[i] = v9 := by
      have e : rys[i]? = some v9 := by simpa using hv9
      rw [List.getElem?_eq_getElem hi2] at e
      exact Option.some.inj e
    refine ldOwn F9 hm9 ?_ (by rfl) (by rfl)
    refine ⟨s9.heap, s9.toks, [], rfl, F9, N9, (fun _ hp => nomatch hp), ?_⟩
    rintro ys' objs ⟨rfl, rfl⟩
    refine ⟨rfl, ?_⟩
    rw [selV_snoc _ hz, hf', hv]
    rfl
  · intro D h' tk ys' objs F' N' hnew hΦ
    obtain ⟨rfl, rfl⟩ := hΦ
    have e : rys.toArray.size = (rys.zip (rowsOf ts)).length := by rw [List.size_toArray, List.length_zip, hrel.len, Nat.min_self]
    rw [e, List.take_length, ← hav] at N'
    have hra' := hra.at fun p hp => N' p (.tail _ (.tail _ hp))
    repeat ((fail_if_success (with_reducible show wpAny _ _ (compareOp CmpOp.NotEq (Value.ref _) (Value.ref _)) _ _ _)); first | k_unfold | walk1 | (dsimp only; walk1))
    refine ne_rows (ra := arows) (rb := arows) (N' _ (.tail _ (.head _))).1 (N' _ (.head _)).1 hra' hra' (by show un + 64 < cLine; omega) ?_
    rw [decide_eq_true (show arows = arows from rfl)]
    repeat' (first | k_unfold | walk1 | (dsimp only; walk1))
    exact ret h' tk F' fun q hq => N' q (.tail _ hq)
end
theorem TupR.snoc {way : Int} {ys : List Value} {objs : Led} {js : List Nat} {a : Addr} {j : Nat} {k w : Tok} (h : TupR way ys objs js) : TupR way (ys ++ [.ref a]) ([(a, tupO (.int j k) (.int way w))] ++ objs) (js ++ [j]) := by
  obtain ⟨rfl, hp⟩ := h
  refine ⟨by simp, ?_⟩
  have : ([(a, tupO (.int j k) (.int way w))] ++ objs).reverse.map (·.2) = objs.reverse.map (·.2) ++ [tupO (.int j k) (.int way w)] := by simp
  rw [this]
  exact hp.snoc ⟨k, w, rfl⟩
theorem eltEnd_one {base : Heap} {C : Addr} {s : Shared} {m : Str → Option Value} {news : Led} {Φ Φ' : List Value → Led → Prop} {a : Addr} {o : Obj} {h' : Heap} {tk' : Nat}
    (F : Fr base C h' m) (N : News base C h' ((a, o) :: news)) (hlt : ∀ p ∈ news, @LT.lt Nat _ p.1 a) (hp : ∀ ys objs, Φ ys objs → Φ' (ys ++ [.ref a]) ([(a, o)] ++ objs)) :
    EltEnd base C s m news Φ Φ' (.ref a) { s with heap := h', toks := tk' } :=
  ⟨h', tk', [(a, o)], rfl, F, N, fun p hp q hq => by
    rw [List.mem_singleton.mp hp]
    exact Ne.symm (Nat.ne_of_lt (hlt q hq)), hp⟩
section
variable {w : World} {mean : ExcName → Option Value} {mg mb : Str → Option Value} {s : Shared} {h₀ base : Heap} {L fa l D H R LL Ap : Addr} {cd : Value} {m : Str → Option Value} {dp un : Nat} {gd : Option (List Code)} {A₀ : Around} {Q : Flow → Shared → Prop} {vs ys rys lys avs : List Value} {ns ts : List Int} {n way : Int} {t tw : Tok} {o1 o2 o3 o4 : Obj} {k kR kL kA : Nat} {v2 v4 : Option Value} {news rl lrl : Led} {arows : List (List Int)}
theorem st11 (hn : n = 4 ∨ n = 5) (B : Below (AK dp un gd []) base [] h₀) (hdp : dp + 60 < recursionLimit) (hun : un + 600 < cLine) (X : (hd.heap_39 w.params).In h₀) (T : Top hd.view_39 lz mean mg mb h₀) (F : Fr h₀ L s.heap m) (N : News h₀ L s.heap news)
    (hc1 : (L + 1, o1) ∈ news) (d1 : o1.data = .cell (some (.int n t))) (hc2 : (L + 2, o2) ∈ news) (d2 : o2.data = .cell (some (.int way tw)))
    (ret : ∀ h' tk x d c tc ys tl k, Fr h₀ L h' (fun z => if z = Str.ofString "judge" then some (.ref x) else m z) →
      News h₀ L h' ((x, instObj 76 d) :: (d, dictOf [{ hash := PyData.keyHash w.params (Str.ofString "comp_select_list"), key := .str (Str.ofString "comp_select_list") tc, val := .ref c }] 1) :: (c, lstO ys k) :: (tl ++ news)) → TupR way ys tl (List.range n.toNat) → Q .next { s with heap := h', toks := tk }) :
    wpAny (model prg w) ((AK dp un gd []).deeper (lenv L fa cd)) (exec (lawS 10) (lenv L fa cd)) Q Ef s := by
  rw [show lenv L fa cd = envOfC (Str.ofString "law") (Scope.mk _ _ _ _ _) L fa cd from rfl] at *
  rw [show lawS 10 = Stmt.Assign [Expr.Name _ _] (Expr.Call _ [Expr.ListComp _ [Comprehension.mk _ _ _ _] _ _] _ _) _ from rfl]
  repeat ((fail_if_success (with_reducible show wpAny _ _ (eval (Expr.ListComp _ _ _ _) _) _ _ _)); first | walk1 | (dsimp only; walk1))
  refine listCompN (h₀ := h₀) (L := L) (by with_unfolding_all rfl) (by decide) (by rfl) (by decide) ?_
  repeat ((fail_if_success (refine ⟨?_, ?_, ?_, ?_, ?_, ?_, ?_⟩)); first | walk1 | (dsimp only; walk1))
  rename IsRange _ _ _ _ _ _ _ _ => R1
  rename Fr _ _ _ _ => F1
  rename News _ _ _ _ => N1
  refine ⟨n.toNat, _, fun i ys' objs => TupR way ys' objs ((List.range n.toNat).take i), fun _ => true, m, news, src_range rfl R1 (by rcases hn with rfl | rfl <;> decide) (by rcases hn with rfl | rfl <;> decide) (fun C => by rfl) (fun C => rfl) (fun C => by rfl), ⟨?_, ⟨rfl, .nil⟩, ?_, ?_, ?_⟩, F1, N1, ?_⟩
  · intro i ys' objs h
    rw [h.len, List.length_take, List.length_range, sizeLine_eq]
    omega
  · intro i ys' objs _ e
    cases e
  · intro base' C i hk hi'
    exact testOk_nil
  · intro base' C i hk hi' _
    have hcw : base'.IsCell (L + 2) (some (.int way tw)) := ⟨_, hk _ _ id (N1 _ hc2).1, d2⟩
    clear ret F1 N1
    rintro s9 m9 news9 E9 F9 N9 ⟨tj, hm9⟩
    rw [List.take_add_one, List.getElem?_range hi']
    repeat' (first | walk1 | (dsimp only; walk1))
    rename News _ _ _ _ => N7
    rename Fr _ _ _ _ => F7
    refine eltEnd_one F7 N7 (by assumption) ?_
    intro ys2 objs2 h2
    exact h2.snoc
  · intro c h' tk ys' objs F' N' hnew hΦ
    rw [List.take_of_length_le (by rw [List.length_range]; exact Nat.le_refl _)] at hΦ
    repeat' (first | walk1 | (dsimp only; walk1))
    exact ret _ _ _ _ c _ ys' objs _ (by assumption) (by assumption) hΦ
end
/-- a row as one number -/
def code : List Int → Int
  | [] => 0
  | x :: r => x * 5 ^ r.length + code r
def better (way : Int) (p q : List Int) : Prop := if way = 1 then code p < code q else code q < code p
theorem better_one (p q : List Int) : better 1 p q ↔ code p < code q := by unfold better; rw [if_pos rfl]
theorem better_neg (p q : List Int) : better (-1) p q ↔ code q < code p := by unfold better; rw [if_neg (by decide)]
def Low (r : List Int) : Prop := ∀ x ∈ r, 0 ≤ x ∧ x < 5
theorem code_bound : ∀ {r : List Int}, Low r → 0 ≤ code r ∧ code r < 5 ^ r.length
  | [], _ => by simp [code]
  | x :: r, h => by
    obtain ⟨h1, h2⟩ := code_bound (r := r) fun y hy => h y (.tail _ hy)
    obtain ⟨h3, h4⟩ := h x (.head _)
    have hP : (0 : Int) ≤ 5 ^ r.length := by omega
    have a := Int.mul_nonneg h3 hP
    have b := Int.mul_le_mul_of_nonneg_right (show x ≤ 4 by omega) hP
    rw [List.length_cons, Int.pow_succ]
    show 0 ≤ x * 5 ^ r.length + code r ∧ x * 5 ^ r.length + code r < _
    generalize x * 5 ^ r.length = u at a b
    generalize (5 : Int) ^ r.length = P at h2 hP b
    omega
theorem code_lt {x y : Int} {p q : List Int} (hl : p.length = q.length) (bp : Low p) (bq : Low q) (h : x < y) : code (x :: p) < code (y :: q) := by
  obtain ⟨h1, h2⟩ := code_bound bp
  obtain ⟨h3, h4⟩ := code_bound bq
  have b := Int.mul_le_mul_of_nonneg_right (show x + 1 ≤ y by omega) (show (0 : Int) ≤ 5 ^ q.length by omega)
  show x * 5 ^ p.length + code p < y * 5 ^ q.length + code q
  rw [hl] at h2 ⊢
  rw [Int.add_mul, Int.one_mul] at b
  omega
theorem code_tail {x : Int} {p q : List Int} (hl : p.length = q.length) : code (x :: p) < code (x :: q) ↔ code p < code q := by
  show x * 5 ^ p.length + code p < x * 5 ^ q.length + code q ↔ _
  rw [hl]
  omega
theorem low_tail {x : Int} {r : List Int} (h : Low (x :: r)) : Low r := fun y hy => h y (.tail _ hy)
theorem ltL_iff : ∀ {p q : List Int}, p.length = q.length → Low p → Low q → (ltL p q = true ↔ code p < code q)
  | [], [], _, _, _ => by simp [ltL, code]
  | x :: p, y :: q, hl, bp, bq => by
    have hl' : p.length = q.length := by simpa using hl
    show (if x = y then ltL p q else decide (x < y)) = true ↔ _
    by_cases e : x = y
    · subst e
      rw [if_pos rfl, code_tail hl']
      exact ltL_iff hl' (low_tail bp) (low_tail bq)
    · rw [if_neg e, decide_eq_true_eq]
      by_cases h : x < y
      · exact ⟨fun _ => code_lt hl' (low_tail bp) (low_tail bq) h, fun _ => h⟩
      · have := code_lt hl'.symm (low_tail bq) (low_tail bp) (show y < x by omega)
        exact ⟨fun h' => absurd h' h, fun h' => by omega⟩
  | [], _ :: _, h, _, _ => by simp at h
  | _ :: _, [], h, _, _ => by simp at h
theorem code_eq : ∀ {p q : List Int}, p.length = q.length → Low p → Low q → code p = code q → p = q
  | [], [], _, _, _, _ => rfl
  | x :: p, y :: q, hl, bp, bq, h => by
    have hl' : p.length = q.length := by simpa using hl
    by_cases e : x = y
    · subst e
      have h' : x * 5 ^ p.length + code p = x * 5 ^ q.length + code q := h
      rw [hl'] at h'
      rw [code_eq hl' (low_tail bp) (low_tail bq) (by omega)]
    · by_cases h2 : x < y
      · have := code_lt hl' (low_tail bp) (low_tail bq) h2
        omega
      · have := code_lt hl'.symm (low_tail bq) (low_tail bp) (show y < x by omega)
        omega
  | [], _ :: _, h, _, _, _ => by simp at h
  | _ :: _, [], h, _, _, _ => by simp at h
theorem ltL_code {p q : List Int} {n : Nat} (hp : p.length = n) (hq : q.length = n) (bp : Low p) (bq : Low q) : ltL p q = decide (code p < code q) := by
  have := ltL_iff (hp.trans hq.symm) bp bq
  by_cases h : code p < code q
  · rw [decide_eq_true h, this.mpr h]
  · rw [decide_eq_false h]
    exact Bool.eq_false_iff.mpr fun e => h (this.mp e)
theorem cmp_one : ∀ {p q : List Int}, (cmpV 1 p q < 0 ↔ ltL p q = true)
  | [], q => by cases q <;> simp [cmpV, ltL]
  | _ :: _, [] => by simp [cmpV, ltL]
  | x :: p, y :: q => by
    show (if x < y then -1 else if y < x then 1 else cmpV 1 p q) < 0 ↔ (if x = y then ltL p q else decide (x < y)) = true
    by_cases h : x < y
    · rw [if_pos h, if_neg (by omega), decide_eq_true h]; simp
    · by_cases h2 : y < x
      · rw [if_neg h, if_pos h2, if_neg (by omega), decide_eq_false h]; simp
      · rw [if_neg h, if_neg h2, if_pos (by omega)]
        exact cmp_one
theorem cmp_neg : ∀ {p q : List Int}, (cmpV (-1) p q < 0 ↔ ltL q p = true)
  | [], q => by cases q <;> simp [cmpV, ltL]
  | _ :: _, [] => by simp [cmpV, ltL]
  | x :: p, y :: q => by
    show (if x < y then - -1 else if y < x then -1 else cmpV (-1) p q) < 0 ↔ (if y = x then ltL q p else decide (y < x)) = true
    by_cases h : x < y
    · rw [if_pos h, if_neg (by omega), decide_eq_false (by omega)]; simp
    · by_cases h2 : y < x
      · rw [if_neg h, if_pos h2, if_neg (by omega), decide_eq_true h2]; simp
      · rw [if_neg h, if_neg h2, if_pos (by omega)]
        exact cmp_neg
theorem cmp_sign {way : Int} {p q : List Int} (hw : way = 1 ∨ way = -1) (hl : p.length = q.length) (bp : Low p) (bq : Low q) : cmpV way p q < 0 ↔ better way p q := by
  rcases hw with rfl | rfl
  · rw [better_one, cmp_one, ltL_iff hl bp bq]
  · rw [better_neg, cmp_neg, ltL_iff hl.symm bq bp]
section
variable {w : World} {mean : ExcName → Option Value} {mg mb : Str → Option Value} {s : Shared} {h₀ base : Heap} {L fa : Addr} {cd : Value} {m : Str → Option Value} {dp un : Nat} {gd : Option (List Code)} {news : Led}
/-- a hidden call, from the law's frame -/
theorem TelH.useL {k : Nat} {f : Addr} {vs : List Value} {led : Led} {post : Value → Heap → Prop} {Q E : Value → Shared → Prop} (C : TelH k w mean mg mb f vs (led.map (·.1)) post s) (hs : ∀ p ∈ led, p ∈ news)
    (B : Below (AK dp un gd [lenv L fa cd]) base [lenv L fa cd] s.heap) (F : Fr h₀ L s.heap m) (X : (hd.heap_39 w.params).In h₀) (N : News h₀ L s.heap news) (T : Top hd.view_39 lz mean mg mb h₀) (hdp : dp + k < recursionLimit) (hu : un + 10 * k < cLine)
    (ret : ∀ r h' tk', post r h' → Fr h₀ L h' m → News h₀ L h' news → Q r { s with heap := h', toks := tk' }) :
    wpAny (model prg w) (AK dp un gd [lenv L fa cd]) (call (.ref f) vs []) Q E s := by
  have hh : ∀ b o, h₀.get? b = some o → (hideAll s.heap (led.map (·.1))).get? b = some o := fun b o e => hideAll_get _ (F.keep _ _ e) fun hm => by
    obtain ⟨p, hp, rfl⟩ := List.mem_map.mp hm
    rw [(N p (hs p hp)).2.2] at e
    cases e
  refine C dp un gd [lenv L fa cd] base Q E B (fun env he a ha e => ?_) (X.keeps F.keep) (T.keeps F.keep) (X.keeps hh) (T.keeps hh) hdp hu fun r h' tk' st hp => ret r h' tk' hp (F.grownK st) (N.grown st)
  rw [List.mem_singleton.mp he] at e
  obtain ⟨p, hp, rfl⟩ := List.mem_map.mp ha
  have e' : some L = some p.1 := e
  exact (N p (hs p hp)).2.1 (Option.some.inj e').symm
theorem objNe {a b : Addr} {o o' : Obj} (N : News h₀ L s.heap news) (ha : (a, o) ∈ news) (hb : (b, o') ∈ news) (h : o ≠ o') : a ≠ b := fun e => by
  have z1 := (N _ ha).1
  have z2 := (N _ hb).1
  have e' : a = b := e
  simp only [e'] at z1
  rw [z1] at z2
  exact h (Option.some.inj z2)
theorem compCall {n way : Int} {x d c l r : Addr} {tc : Tok} {ys lv rv : List Value} {tl : Led} {z lk rk : Nat} {p q : List Int} {Q E : Value → Shared → Prop} (hn : n = 4 ∨ n = 5) (hw : way = 1 ∨ way = -1)
    (B : Below (AK dp un gd [lenv L fa cd]) base [lenv L fa cd] s.heap) (F : Fr h₀ L s.heap m) (X : (hd.heap_39 w.params).In h₀) (N : News h₀ L s.heap news) (T : Top hd.view_39 lz mean mg mb h₀)
    (hx : (x, instObj 76 d) ∈ news) (hd' : (d, dictOf [{ hash := PyData.keyHash w.params (Str.ofString "comp_select_list"), key := .str (Str.ofString "comp_select_list") tc, val := .ref c }] 1) ∈ news) (hc : (c, lstO ys z) ∈ news) (htl : ∀ p ∈ tl, p ∈ news)
    (htr : TupR way ys tl (List.range n.toNat)) (hl : (l, lstO lv lk) ∈ news) (hli : IntsAre lv p) (hr : (r, lstO rv rk) ∈ news) (hri : IntsAre rv q) (lp : p.length = n.toNat) (lq : q.length = n.toNat) (bp : ∀ x ∈ p, 0 ≤ x ∧ x < 5) (bq : ∀ x ∈ q, 0 ≤ x ∧ x < 5)
    (hdp : dp + 10 < recursionLimit) (hu : un + 100 < cLine)
    (ret : ∀ z t h' tk', (z < 0 ↔ better way p q) → Fr h₀ L h' m → News h₀ L h' news → Q (.int z t) { s with heap := h', toks := tk' }) :
    wpAny (model prg w) (AK dp un gd [lenv L fa cd]) (call (.ref 73) [.ref x, .ref l, .ref r] []) Q E s := by
  have hs : ∀ p ∈ (x, instObj 76 d) :: (d, dictOf [{ hash := PyData.keyHash w.params (Str.ofString "comp_select_list"), key := .str (Str.ofString "comp_select_list") tc, val := .ref c }] 1) :: (c, lstO ys z) :: tl, p ∈ news := fun p hp => by
    rcases List.mem_cons.mp hp with rfl | hp
    · exact hx
    rcases List.mem_cons.mp hp with rfl | hp
    · exact hd'
    rcases List.mem_cons.mp hp with rfl | hp
    · exact hc
    · exact htl _ hp
  have n0 : 0 < n.toNat := by omega
  have nm : ∀ (u : Addr) (uv : List Value) (ur : List Int) (j : Nat), IntsAre uv ur → ur.length = n.toNat → (u, lstO uv j) ∈ news → u ∉ ((x, instObj 76 d) :: (d, dictOf [{ hash := PyData.keyHash w.params (Str.ofString "comp_select_list"), key := .str (Str.ofString "comp_select_list") tc, val := .ref c }] 1) :: (c, lstO ys z) :: tl).map (·.1) := fun u uv ur j hu lu hu' hm => by
    obtain ⟨e, he, e2⟩ := List.mem_map.mp hm
    have z1 := (N _ (hs e he)).1
    have z2 := (N _ hu').1
    have e2' : e.1 = u := e2
    rw [e2'] at z1
    rw [z2] at z1
    have z3 := Option.some.inj z1
    rcases List.mem_cons.mp he with rfl | he
    · cases congrArg Obj.data z3
    rcases List.mem_cons.mp he with rfl | he
    · cases congrArg Obj.data z3
    rcases List.mem_cons.mp he with rfl | he
    · have h1 := congrArg Obj.data z3
      simp only [lstO, Data.seq.injEq] at h1
      have h2 := congrArg Array.toList h1.1
      simp only at h2
      obtain ⟨a, ta, ha, _⟩ := ints_nth hu (i := 0) (by omega)
      rw [h2] at ha
      obtain ⟨_, _, _, hv, _⟩ := htr.get ha
      cases hv
    · obtain ⟨a, b, hab⟩ := htr.tup he
      rw [hab] at z3
      have := congrArg Obj.cls z3
      simp [lstO, tupO] at this
  refine (compG w mean mg mb s x d c l r way tc n.toNat z ys lv rv p q tl _ rfl htr (by omega) (fun p hp => (N p (hs p hp)).1) ⟨_, (N _ hl).1, rfl, _, rfl⟩ ⟨_, (N _ hr).1, rfl, _, rfl⟩ hli hri lp lq (nm _ _ _ _ hli lp hl) (nm _ _ _ _ hri lq hr)).useL hs B F X N T hdp (by omega) fun v h' tk' hp F' N' => ?_
  obtain ⟨t, rfl⟩ := hp
  exact ret _ t h' tk' (cmp_sign hw (lp.trans lq.symm) bp bq) F' N'
end
section
variable {w : World} {mean : ExcName → Option Value} {mg mb : Str → Option Value} {s : Shared} {h₀ base : Heap} {L fa l D H R LL Ap x d c : Addr} {cd : Value} {m : Str → Option Value} {dp un : Nat} {gd : Option (List Code)} {A₀ : Around} {Q : Flow → Shared → Prop} {vs ys rys lys avs : List Value} {ns ts : List Int} {n way : Int} {t tw tc : Tok} {o1 o2 o3 o4 : Obj} {k kR kL kA : Nat} {v2 v4 : Option Value} {news rl lrl tl : Led} {arows : List (List Int)}
theorem slice_one {prog : Program} {A : Around} {E : Value → Shared → Prop} {Q : Value → Shared → Prop} {value slice : PySem.Expr} (F : Fr h₀ L s.heap m) (N : News h₀ L s.heap news) (hl : s.heap.IsList l vs.toArray) (hz : vs.length ≤ 63)
    (h : ∀ D h', Fr h₀ L h' m → News h₀ L h' ((D, lstO (vs.take 1) 0) :: news) → (∀ p ∈ news, p.1 < D) → Q (.ref D) { s with heap := h' })
    (hs : subscripted slice false (.ref l) (.ref s.heap.objs.size) = operate [.ref s.heap.objs.size, .ref l] (getItem (.ref l) (.ref s.heap.objs.size))) (ht : ∀ r, letTemporaryGo value (.ref l) r = pure ()) :
    wpAny (model prog w) A (subscriptTail value slice (.ref l) (.ref s.heap.objs.size)) Q E { s with heap := s.heap.push { cls := .type "slice", data := .fields #[.none, .int 1 t, .none] } } := by
  refine kmk_slice F N hl .none (.int 1 t) (fun D h' F' N' l1 => h D h' F' ?_ l1) hs ht (by rw [List.size_toArray, sizeLine_eq]; omega)
  have e := slicePick_upto' vs.toArray 1
  simp only [List.toList_toArray] at e
  have e' : listOf (slicePick vs.toArray none (some 1) none) 0 = lstO (vs.take 1) 0 := by
    show listOf (slicePick vs.toArray none (some ((1 : Nat) : Int)) none) 0 = _
    rw [e]
  rw [e'] at N'
  exact N'
theorem st12 (X : (hd.heap_39 w.params).In h₀) (T : Top hd.view_39 lz mean mg mb h₀) (F : Fr h₀ L s.heap m) (N : News h₀ L s.heap news) (hA : (Ap, lstO avs kA) ∈ news) (hma : m (Str.ofString "apart") = some (.ref Ap)) (hav : avs.length ≤ 24)
    (ret : ∀ h' tk Fa, Fr h₀ L h' (fun z => if z = Str.ofString "first" then some (.ref Fa) else m z) → News h₀ L h' ((Fa, lstO (avs.take 1) 0) :: news) → Q .next { s with heap := h', toks := tk }) :
    wpAny (model prg w) (AK dp un gd [lenv L fa cd]) (exec (lawS 11) (lenv L fa cd)) Q Ef s := by
  rw [show lenv L fa cd = envOfC (Str.ofString "law") (Scope.mk _ _ _ _ _) L fa cd from rfl] at *
  rw [show lawS 11 = Stmt.Assign [Expr.Name _ _] (Expr.Subscript _ _ _) _ from rfl]
  repeat ((fail_if_success (with_reducible show wpAny _ _ (subscriptTail _ _ _ _) _ _ _)); first | walk1 | (dsimp only; walk1))
  rename Fr _ _ _ _ => F1
  rename News _ _ _ _ => N1
  with_unfolding_all refine slice_one (vs := avs) F1 N1 ⟨_, (N1 _ hA).1, rfl, _, rfl⟩ (by omega) ?_ ?_ ?_
  · intro D' h' F' N' l1
    repeat' (first | walk1 | (dsimp only; walk1))
    exact ret _ _ D' (by assumption) (by assumption)
  · with_unfolding_all rfl
  · intro _; with_unfolding_all rfl
def FirstOk (avs : List Value) (arows : List (List Int)) (way : Int) (i : Nat) (fv : List Value) : Prop :=
  (avs = [] ∧ fv = []) ∨ ∃ b v, fv = [v] ∧ avs[b]? = some v ∧ ∀ j, j < i → ¬ better way (arows.getD j []) (arows.getD b [])
theorem FirstOk.start {way : Int} : FirstOk avs arows way 0 (avs.take 1) := by
  cases avs with
  | nil => exact .inl ⟨rfl, rfl⟩
  | cons v r => exact .inr ⟨0, v, rfl, rfl, fun j hj => absurd hj (Nat.not_lt_zero _)⟩
theorem better_step {way : Int} (hw : way = 1 ∨ way = -1) {i b : Nat} (h : ∀ j, j < i → ¬ better way (arows.getD j []) (arows.getD b [])) (hb : better way (arows.getD i []) (arows.getD b [])) :
    ∀ j, j < i + 1 → ¬ better way (arows.getD j []) (arows.getD i []) := by
  intro j hj
  by_cases e : j = i
  · subst e
    rcases hw with rfl | rfl
    · rw [better_one]; omega
    · rw [better_neg]; omega
  · have := h j (by omega)
    rcases hw with rfl | rfl
    · rw [better_one] at *; omega
    · rw [better_neg] at *; omega
theorem RowsLed.get {S : Led} (hra : RowsLed S avs arows) {i : Nat} {v : Value} (h : avs[i]? = some v) : ∃ a xs k, v = .ref a ∧ (a, lstO xs k) ∈ S ∧ IntsAre xs (arows.getD i []) ∧ arows[i]? = some (arows.getD i []) := by
  obtain ⟨r, hr, a, xs, k, rfl, hm, hi⟩ := paired_get hra h
  have e : arows.getD i [] = r := by rw [List.getD_eq_getElem?_getD, hr]; rfl
  exact ⟨a, xs, k, rfl, hm, e ▸ hi, e ▸ hr⟩
theorem stEq {s s' : Shared} {h : Heap} {tk : Nat} (a : s'.gens = s.gens) (b : s'.drawn = s.drawn) (c : s'.os = s.os) : ({ heap := h, gens := s'.gens, drawn := s'.drawn, toks := tk, os := s'.os } : Shared) = { s with heap := h, toks := tk } := by
  rw [← a, ← b, ← c]
theorem st13 {S : Led} (hn : n = 4 ∨ n = 5) (hw : way = 1 ∨ way = -1) (B : ∀ h m, Fr h₀ L h m → Below (AK dp un gd [lenv L fa cd]) base [lenv L fa cd] h) (hdp : dp + 60 < recursionLimit) (hun : un + 600 < cLine) (X : (hd.heap_39 w.params).In h₀) (T : Top hd.view_39 lz mean mg mb h₀) (F : Fr h₀ L s.heap m) (N : News h₀ L s.heap ((Fa, lstO (avs.take 1) 0) :: S))
    (hA : (Ap, lstO avs kA) ∈ S) (hav : avs.length ≤ 24) (hra : RowsLed S avs arows) (hok : ∀ r ∈ arows, r.length = n.toNat ∧ ∀ x ∈ r, 0 ≤ x ∧ x < 5)
    (hx : (x, instObj 76 d) ∈ S) (hd' : (d, dictOf [{ hash := PyData.keyHash w.params (Str.ofString "comp_select_list"), key := .str (Str.ofString "comp_select_list") tc, val := .ref c }] 1) ∈ S) (hc : (c, lstO ys k) ∈ S) (htl : ∀ p ∈ tl, p ∈ S) (htr : TupR way ys tl (List.range n.toNat))
    (hma : m (Str.ofString "apart") = some (.ref Ap)) (hmf : m (Str.ofString "first") = some (.ref Fa)) (hmj : m (Str.ofString "judge") = some (.ref x))
    (ret : ∀ h' tk m' Fb fv kF, Fr h₀ L h' m' → News h₀ L h' ((Fb, lstO fv kF) :: S) → m' (Str.ofString "apart") = some (.ref Ap) → m' (Str.ofString "first") = some (.ref Fb) → FirstOk avs arows way avs.length fv → Q .next { s with heap := h', toks := tk }) :
    wpAny (model prg w) (AK dp un gd [lenv L fa cd]) (exec (lawS 12) (lenv L fa cd)) Q Ef s := by
  rw [show lenv L fa cd = envOfC (Str.ofString "law") (Scope.mk _ _ _ _ _) L fa cd from rfl] at *
  rw [show lawS 12 = Stmt.For (Expr.Name _ _) _ _ [] _ from rfl]
  refine forK (L := L) (h₀ := h₀) rfl (fun _ _ => rfl) ?_
  walk1
  refine ⟨Ap, avs.toArray, m, (Fa, lstO (avs.take 1) 0) :: S, fun i m' news' => ∃ Fb fv kF, m' (Str.ofString "apart") = some (.ref Ap) ∧ m' (Str.ofString "first") = some (.ref Fb) ∧ m' (Str.ofString "judge") = some (.ref x) ∧ (Fb, lstO fv kF) ∈ news' ∧ (∀ p ∈ S, p ∈ news') ∧ FirstOk avs arows way i fv, rfl, F, N, ?_, ?_, ?_, ?_⟩
  · exact ⟨Fa, _, 0, hma, hmf, hmj, .head _, fun p hp => .tail _ hp, FirstOk.start⟩
  · rintro i h m' news' F' N' ⟨Fb, fv, kF, _, _, _, _, hS, _⟩
    exact ⟨_, (N' _ (hS _ hA)).1, rfl, _, rfl⟩
  · rintro i v m' news' I oI s' hv F' N' ⟨Fb, fv, kF, g1, g2, g3, hF, hS, hFO⟩ hoff hIf hg1 hd1 ho1
    have hvi : avs[i]? = some v := by simpa using hv
    obtain ⟨a, xs, ka, rfl, hma', hia, hri⟩ := hra.get hvi
    rcases hFO with ⟨e0, _⟩ | ⟨b, vb, rfl, hvb, hbest⟩
    · rw [e0] at hvi; cases hvi
    obtain ⟨ab, xb, kb, rfl, hmb, hib, hrb⟩ := hra.get hvb
    have oka := hok _ (List.mem_of_getElem? hri)
    have okb := hok _ (List.mem_of_getElem? hrb)
    clear ret
    repeat ((fail_if_success (with_reducible show wpAny _ _ (exec _ _) _ _ _)); first | walk1 | (dsimp only; walk1))
    rename Fr _ _ _ _ => F2
    rename News _ _ _ _ => N2
    have q0 : (fun y => if y = Str.ofString "row" then some (Value.ref a) else m' y) (Str.ofString "row") = some (.ref a) := if_pos rfl
    have q1 : (fun y => if y = Str.ofString "row" then some (Value.ref a) else m' y) (Str.ofString "apart") = some (.ref Ap) := (if_neg (by decide)).trans g1
    have q2 : (fun y => if y = Str.ofString "row" then some (Value.ref a) else m' y) (Str.ofString "first") = some (.ref Fb) := (if_neg (by decide)).trans g2
    have q3 : (fun y => if y = Str.ofString "row" then some (Value.ref a) else m' y) (Str.ofString "judge") = some (.ref x) := (if_neg (by decide)).trans g3
    generalize (fun y => if y = Str.ofString "row" then some (Value.ref a) else m' y) = m2 at F2 q0 q1 q2 q3
    have N3 : News h₀ L _ ((x, instObj 76 d) :: (d, dictOf [{ hash := PyData.keyHash w.params (Str.ofString "comp_select_list"), key := .str (Str.ofString "comp_select_list") tc, val := .ref c }] 1) :: (Fb, lstO [.ref ab] kF) :: (I, oI) :: news') :=
      news_cons (fun p hp => by rw [List.mem_singleton.mp hp]; exact N2 _ (.tail _ (hS _ hx))) (news_cons (fun p hp => by rw [List.mem_singleton.mp hp]; exact N2 _ (.tail _ (hS _ hd'))) (news_cons (fun p hp => by rw [List.mem_singleton.mp hp]; exact N2 _ (.tail _ hF)) N2))
    clear N2 g1 g2 g3
    repeat ((fail_if_success (with_reducible show wpAny _ _ (call (Value.ref 73) _ _) _ _ _)); first | walk1 | (dsimp only; walk1))
    have up : ∀ p ∈ S, p ∈ ((x, instObj 76 d) :: (d, dictOf [{ hash := PyData.keyHash w.params (Str.ofString "comp_select_list"), key := .str (Str.ofString "comp_select_list") tc, val := .ref c }] 1) :: (Fb, lstO [.ref ab] kF) :: (I, oI) :: news' : Led) := fun p hp => .tail _ (.tail _ (.tail _ (.tail _ (hS p hp))))
    refine compCall hn hw (B _ _ F2) F2 X N3 T (up _ hx) (up _ hd') (up _ hc) (fun p hp => up p (htl p hp)) htr (up _ hma') hia (up _ hmb) hib oka.1 okb.1 oka.2 okb.2 (by omega) (by omega) fun z tz h4 tk4 hz F4 N4 => ?_
    clear F2 N3
    repeat' ((fail_if_success (refine ⟨?_, ?_, ?_, ?_, ?_⟩)); first | k_unfold | walk1 | (dsimp only; walk1))
    · rename Fr _ _ _ _ => F5
      rename News _ _ _ _ => N5
      rename _ ∧ _ ∧ _ ∧ _ ∧ AllLt _ news' => l5
      have hbt : better way (arows.getD i []) (arows.getD b []) := hz.mp (by assumption)
      refine ⟨_, _, _, (_, lstO [.ref a] 0) :: news', stEq hg1 hd1 ho1, F5, fun q hq => ?_, ⟨_, [.ref a], 0, (if_neg (by decide)).trans q1, if_pos rfl, (if_neg (by decide)).trans q3, .head _, fun p hp => .tail _ (hS p hp), .inr ⟨i, .ref a, rfl, hvi, better_step hw hbest hbt⟩⟩, fun q hq => ?_⟩
      · rcases List.mem_cons.mp hq with rfl | hq
        · exact N5 _ (.tail _ (.tail _ (.tail _ (.tail _ (.head _)))))
        rcases List.mem_cons.mp hq with rfl | hq
        · exact N5 _ (.head _)
        · exact N5 q (.tail _ (.tail _ (.tail _ (.tail _ (.tail _ hq)))))
      · rcases List.mem_cons.mp hq with rfl | hq
        · exact Nat.ne_of_gt l5.2.2.2.1
        · exact hoff q hq
    · have hnb : ¬ better way (arows.getD i []) (arows.getD b []) := fun hb => by
        have := hz.mpr hb
        omega
      refine ⟨_, _, _, news', stEq hg1 hd1 ho1, F4, fun q hq => ?_, ⟨Fb, [.ref ab], kF, q1, q2, q3, hF, hS, .inr ⟨b, .ref ab, rfl, hvb, fun j hj => ?_⟩⟩, hoff⟩
      · exact N4 q (.tail _ (.tail _ (.tail _ hq)))
      · by_cases e : j = i
        · rw [e]; exact hnb
        · exact hbest j (by omega)
  · rintro h' tk m' news' F' N' ⟨Fb, fv, kF, g1, g2, g3, hF, hS, hFO⟩
    refine ret h' _ m' Fb fv kF F' (news_cons (fun p hp => by rw [List.mem_singleton.mp hp]; exact N' _ hF) fun p hp => N' p (hS p hp)) g1 g2 ?_
    rw [List.size_toArray] at hFO
    exact hFO
end
section
variable {w : World} {mean : ExcName → Option Value} {mg mb : Str → Option Value} {s : Shared} {h₀ base : Heap} {L fa l D H R LL Ap Fb x d c : Addr} {cd : Value} {m : Str → Option Value} {dp un : Nat} {gd : Option (List Code)} {A₀ : Around} {Q : Flow → Shared → Prop} {vs ys rys lys avs fv : List Value} {ns ts : List Int} {n way : Int} {t tw tc : Tok} {o1 o2 o3 o4 : Obj} {k kR kL kA kF : Nat} {v2 v4 : Option Value} {news rl lrl tl : Led} {arows : List (List Int)}
/-- the two firsts are the same row -/
theorem first_same {nn : Nat} {out : List Value} {h : Heap} (hn : nn = 4 ∨ nn = 5) (hw : way = 1 ∨ way = -1) (hok : ∀ r ∈ arows, r.length = nn ∧ ∀ x ∈ r, 0 ≤ x ∧ x < 5) (hra : RowsAre h avs arows) (hF : FirstOk avs arows way avs.length fv)
    (hS : SortOut avs (fun i => code (arows.getD i [])) (decide (way < 0)) out) : ∃ rs, RowsAre h fv rs ∧ RowsAre h (out.take 1) rs := by
  rcases hF with ⟨rfl, rfl⟩ | ⟨b, v, rfl, hv, hb⟩
  · have : out = [] := List.length_eq_zero_iff.mp hS.1
    subst this
    exact ⟨[], .nil, .nil⟩
  · obtain ⟨rb, hrb, ab, rfl, hRb⟩ := paired_get hra hv
    have hbl : b < avs.length := (List.getElem?_eq_some_iff.mp hv).1
    have hl : 0 < out.length := by rw [hS.1]; omega
    obtain ⟨i, hi, hbest⟩ := hS.2 out[0] (List.getElem?_eq_getElem hl)
    obtain ⟨ri, hri, ai, ei, hRi⟩ := paired_get hra hi
    have hil : i < avs.length := (List.getElem?_eq_some_iff.mp hi).1
    have gb : arows.getD b [] = rb := by rw [List.getD_eq_getElem?_getD, hrb]; rfl
    have gi : arows.getD i [] = ri := by rw [List.getD_eq_getElem?_getD, hri]; rfl
    have h1 := hbest b hbl
    have h2 := hb i hil
    simp only [gb, gi] at h1 h2
    have ok1 := hok rb (List.mem_of_getElem? hrb)
    have ok2 := hok ri (List.mem_of_getElem? hri)
    have e : ri = rb := by
      refine code_eq (ok2.1.trans ok1.1.symm) ok2.2 ok1.2 ?_
      rcases hw with rfl | rfl
      · rw [better_one] at h2
        simp at h1
        omega
      · rw [better_neg] at h2
        simp at h1
        omega
    have eo : out.take 1 = [Value.ref ai] := by
      rw [← ei]
      match out, hl with
      | o :: r, _ => rfl
    rw [eo]
    exact ⟨[rb], .cons ⟨ab, rfl, hRb⟩ .nil, .cons ⟨ai, rfl, e ▸ hRi⟩ .nil⟩
theorem st14 {S : Led} (hn : n = 4 ∨ n = 5) (hw : way = 1 ∨ way = -1) (hun : un + 600 < cLine) (X : (hd.heap_39 w.params).In h₀) (T : Top hd.view_39 lz mean mg mb h₀) (F : Fr h₀ L s.heap m) (N : News h₀ L s.heap ((Fb, lstO fv kF) :: (L + 2, o2) :: S)) (d2 : o2.data = .cell (some (.int way tw)))
    (hA : (Ap, lstO avs kA) ∈ S) (hav : avs.length ≤ 24) (hra : RowsLed S avs arows) (hok : ∀ r ∈ arows, r.length = n.toNat ∧ ∀ x ∈ r, 0 ≤ x ∧ x < 5)
    (hma : m (Str.ofString "apart") = some (.ref Ap)) (hmf : m (Str.ofString "first") = some (.ref Fb)) (hFO : FirstOk avs arows way avs.length fv)
    (ret : ∀ h' tk, Fr h₀ L h' m → Q (.ret (.bool true)) { s with heap := h', toks := tk }) :
    wpAny (model prg w) (AK dp un gd [lenv L fa cd]) (exec (lawS 13) (lenv L fa cd)) Q Ef s := by
  rw [show lenv L fa cd = envOfC (Str.ofString "law") (Scope.mk _ _ _ _ _) L fa cd from rfl] at *
  rw [show lawS 13 = Stmt.Return (some (Expr.Compare _ _ [Expr.Subscript (Expr.Call _ _ _ _) _ _] _)) _ from rfl]
  repeat ((fail_if_success (with_reducible show wpAny _ _ (call (Value.builtin "sorted") _ _) _ _ _)); first | walk1 | (dsimp only; walk1))
  rename Fr _ _ _ _ => F1
  rename News _ _ _ _ => N1
  have hrl := hra.length
  have ok' : ∀ i, i < avs.length → (arows.getD i []).length = n.toNat ∧ ∀ x ∈ arows.getD i [], 0 ≤ x ∧ x < 5 := fun i hi => by
    have hi' : i < arows.length := by rw [← hrl]; exact hi
    rw [List.getD_eq_getElem?_getD, List.getElem?_eq_getElem hi']
    exact hok _ (List.getElem_mem hi')
  have hnn : n.toNat = 4 ∨ n.toNat = 5 := by omega
  with_unfolding_all refine sorted_rows (vs := avs) (row := fun i => arows.getD i []) (key := fun i => code (arows.getD i [])) (b := decide (way < 0)) (by show un + 2 < cLine; omega) ⟨_, (N1 _ (.tail _ (.tail _ hA))).1, rfl, _, rfl⟩ (by omega) (fun i hi => ?_) (fun i j hi hj => ⟨(ok' i hi).1.trans (ok' j hj).1.symm, ltL_code (ok' i hi).1 (ok' j hj).1 (ok' i hi).2 (ok' j hj).2⟩) fun D h2 e2 out hk hD hD2 hS => ?_
  · obtain ⟨a, xs, ka, e, hm', hi', _⟩ := hra.get (List.getElem?_eq_getElem hi)
    exact ⟨a, by rw [List.getElem?_eq_getElem hi, e], xs, ka, (N1 _ (.tail _ (.tail _ hm'))).1, hi'⟩
  have F2 := F1.grownK hk
  have N2 : News h₀ L h2 ((D, lstO out e2) :: (Fb, lstO fv kF) :: (L + 2, o2) :: S) := got F1 (N1.grown hk) hD2 hD
  clear N1 F1
  repeat ((fail_if_success (with_reducible show wpAny _ _ (subscriptTail (Expr.Name _ _) (Expr.Slice _ _ _ _) (Value.ref _) (Value.ref _)) _ _ _)); first | walk1 | (dsimp only; walk1))
  have hol : out.length ≤ 63 := by rw [hS.1]; omega
  with_unfolding_all refine slice_one (s := { s with heap := h2, toks := _ }) (vs := out) F2 N2 ⟨_, (N2 _ (.head _)).1, rfl, _, rfl⟩ hol ?_ ?_ ?_
  · intro D' h' F' N' l1
    obtain ⟨rs, r1, r2⟩ := first_same hnn hw hok (hra.at fun p hp => N' p (.tail _ (.tail _ (.tail _ (.tail _ hp))))) hFO hS
    repeat ((fail_if_success (with_reducible show wpAny _ _ (compareOp CmpOp.Eq (Value.ref _) (Value.ref _)) _ _ _)); first | walk1 | (dsimp only; walk1))
    refine eq_rows (ra := rs) (rb := rs) (N' _ (.tail _ (.tail _ (.head _)))).1 (N' _ (.head _)).1 r1 r2 (by show un + 64 < cLine; omega) ?_
    rw [decide_eq_true (show rs = rs from rfl)]
    repeat' (first | k_unfold | walk1 | (dsimp only; walk1))
    exact ret _ _ F'
  · with_unfolding_all rfl
  · intro _; with_unfolding_all rfl
end
/-! the plain law: a row of throws lands apart if and only if the throws are whole turns -/
section
variable {α β : Type}
def insG (t : α) (row : List α) : List (List α) := (List.range (row.length + 1)).map fun k => row.take k ++ [t] ++ row.drop k
def ordersG (ts : List α) : List (List α) := ts.foldl (fun rows t => rows.flatMap (insG t)) [[]]
theorem insG_map (f : α → β) (t : α) (row : List α) : insG (f t) (row.map f) = (insG t row).map (List.map f) := by
  unfold insG
  rw [List.length_map, List.map_map]
  refine List.map_congr_left fun k _ => ?_
  simp
theorem ordersG_map (f : α → β) (ts : List α) : ordersG (ts.map f) = (ordersG ts).map (List.map f) := by
  have key : ∀ (ts : List α) (rows : List (List α)), (ts.map f).foldl (fun rows t => rows.flatMap (insG t)) (rows.map (List.map f)) = (ts.foldl (fun rows t => rows.flatMap (insG t)) rows).map (List.map f) := by
    intro ts
    induction ts with
    | nil => intro rows; rfl
    | cons t ts ih =>
      intro rows
      rw [List.map_cons, List.foldl_cons, List.foldl_cons, ← ih]
      congr 1
      rw [List.flatMap_map, List.map_flatMap]
      congr 1
      funext row
      exact insG_map f t row
  exact key ts [[]]
end
theorem orders_eq (ts : List Int) : orders ts = ordersG ts := rfl
def digN (n : Nat) : Nat → List Nat → List Nat
  | _, [] => []
  | i, x :: r => (i + x) % n :: digN n (i + 1) r
def ndN : List Nat → Bool
  | [] => true
  | x :: r => r.all (fun y => !(Nat.beq x y)) && ndN r
def exN (n : Nat) (us : List Nat) : Bool := (ordersG (us.drop 1)).any fun r => ndN (digN n 0 (us.take 1 ++ r))
theorem ex4 : ((List.range 4).all fun a => (List.range 4).all fun b => (List.range 4).all fun c => (List.range 4).all fun d => !(Nat.beq ((a + b + c + d) % 4) 0) || exN 4 [a, b, c, d]) = true := by decide +kernel
theorem ex5 : ((List.range 5).all fun a => (List.range 5).all fun b => (List.range 5).all fun c => (List.range 5).all fun d => (List.range 5).all fun e => !(Nat.beq ((a + b + c + d + e) % 5) 0) || exN 5 [a, b, c, d, e]) = true := by decide +kernel
theorem ndN_nodup : ∀ {l : List Nat}, ndN l = true → l.Nodup
  | [], _ => List.Pairwise.nil
  | x :: r, h => by
    simp only [ndN, Bool.and_eq_true, List.all_eq_true, Bool.not_eq_true'] at h
    refine List.Pairwise.cons (fun y hy e => ?_) (ndN_nodup h.2)
    have := h.1 y hy
    subst e
    simp at this
theorem digN_get (n : Nat) : ∀ (r : List Nat) (i j : Nat), (digN n i r)[j]? = (r[j]?).map fun x => (i + j + x) % n
  | [], _, _ => by simp [digN]
  | x :: r, i, 0 => by simp [digN]
  | x :: r, i, j + 1 => by
    show (digN n (i + 1) r)[j]? = _
    rw [digN_get n r (i + 1) j]
    simp only [List.getElem?_cons_succ]
    congr 1
    funext y
    congr 2
    omega
theorem digN_len (n : Nat) : ∀ (r : List Nat) (i : Nat), (digN n i r).length = r.length
  | [], _ => rfl
  | x :: r, i => by simp [digN, digN_len n r (i + 1)]
theorem digs_cast {n : Nat} (hn : 0 < n) (r : List Nat) : digs (n : Int) (r.map fun x : Nat => (x : Int)) = (digN n 0 r).map fun x : Nat => (x : Int) := by
  apply List.ext_getElem?
  intro j
  unfold digs
  rw [List.getElem?_map, List.getElem?_map, digN_get, List.length_map]
  by_cases hj : j < r.length
  · rw [List.getElem?_range hj, List.getElem?_eq_getElem hj]
    simp only [Option.map_some, Option.some.injEq, Nat.zero_add]
    have e : (r.map fun x : Nat => (x : Int)).getD j 0 = (r[j] : Int) := by
      rw [List.getD_eq_getElem?_getD, List.getElem?_map, List.getElem?_eq_getElem hj]; rfl
    rw [e, Int.fmod_eq_emod_of_nonneg _ (by omega)]
    rw [Int.natCast_emod]
    push_cast
    rfl
  · have : r[j]? = none := List.getElem?_eq_none (by omega)
    rw [this, List.getElem?_eq_none (by simp; omega)]
    rfl
theorem perm_sum {a b : List Int} (h : a.Perm b) : a.sum = b.sum := by
  induction h with
  | nil => rfl
  | cons x _ ih => simp [ih]
  | swap x y l => simp; omega
  | trans _ _ h1 h2 => exact h1.trans h2
theorem orders_sum (ts : List Int) : ∀ r ∈ orders ts, r.sum = ts.sum := by
  have step : ∀ (us : List Int) (rows : List (List Int)) (k : Int), (∀ r ∈ rows, r.sum = k) → ∀ r ∈ us.foldl ostep rows, r.sum = k + us.sum := by
    intro us
    induction us with
    | nil => intro rows k h r hr; simpa using h r hr
    | cons u us ih =>
      intro rows k h r hr
      have := ih (ostep rows u) (k + u) (fun r' hr' => ?_) r hr
      · rw [this, List.sum_cons]; omega
      · unfold ostep at hr'
        obtain ⟨r0, hr0, hm⟩ := List.mem_flatMap.mp hr'
        simp only [ins, List.mem_map, List.mem_range] at hm
        obtain ⟨j, hj, rfl⟩ := hm
        have e : r0.sum = (r0.take j).sum + (r0.drop j).sum := by rw [← List.sum_append, List.take_append_drop]
        rw [List.sum_append, List.sum_append, ← h r0 hr0, e]
        simp
        omega
  intro r hr
  have := step ts [[]] 0 (fun r hr => by rw [List.mem_singleton.mp hr]; rfl) r hr
  rw [this]; omega
theorem rowsOf_sum {ts : List Int} : ∀ r ∈ rowsOf ts, r.sum = ts.sum := by
  intro r hr
  unfold rowsOf at hr
  obtain ⟨r0, hr0, rfl⟩ := List.mem_map.mp hr
  rw [List.sum_append, orders_sum _ _ hr0, ← List.sum_append, List.take_append_drop]
/-- distinct digits have the sum of all -/
theorem nodup_sum {n : Int} (hn : n = 4 ∨ n = 5) {ds : List Int} (hl : ds.length = n.toNat) (hb : ∀ x ∈ ds, 0 ≤ x ∧ x < n) (h : ds.Nodup) : ds.sum = (rangeKs 0 (n - 0).toNat).sum := by
  have p : (ds.mergeSort (fun a b => decide (a ≤ b))).Perm ds := List.mergeSort_perm ds _
  have o : (ds.mergeSort (fun a b => decide (a ≤ b))).Pairwise (· ≤ ·) := by
    have := List.pairwise_mergeSort (le := fun a b : Int => decide (a ≤ b)) (by intro a b c; simp; omega) (by intro a b; simp; omega) ds
    exact this.imp fun h => by simpa using h
  rw [← perm_sum p, (sorted_range hn p o hl hb).mpr h]
theorem apart_sum {n : Int} (hn : n = 4 ∨ n = 5) {r : List Int} (hl : r.length = n.toNat) (hb : ∀ x ∈ r, 0 ≤ x ∧ x < n) (h : apB n r = true) : r.sum.fmod n = 0 := by
  unfold apB at h
  rw [dOf_digs hn hl hb] at h
  have hs := nodup_sum hn ((digs_len n r).trans hl) (digs_bound (by omega) r) (of_decide_eq_true h)
  rcases hn with rfl | rfl
  · match r, hl with
    | [a, b, c, d], _ =>
      have e : (rangeKs 0 ((4 : Int) - 0).toNat).sum = 6 := by decide
      rw [e] at hs
      have e2 : (digs 4 [a, b, c, d]).sum = (0 + a).fmod 4 + ((1 + b).fmod 4 + ((2 + c).fmod 4 + ((3 + d).fmod 4 + 0))) := rfl
      rw [e2] at hs
      have e3 : [a, b, c, d].sum = a + (b + (c + (d + 0))) := rfl
      rw [e3]
      simp only [Int.fmod_eq_emod_of_nonneg _ (show (0 : Int) ≤ 4 by decide)] at hs ⊢
      omega
  · match r, hl with
    | [a, b, c, d, f], _ =>
      have e : (rangeKs 0 ((5 : Int) - 0).toNat).sum = 10 := by decide
      rw [e] at hs
      have e2 : (digs 5 [a, b, c, d, f]).sum = (0 + a).fmod 5 + ((1 + b).fmod 5 + ((2 + c).fmod 5 + ((3 + d).fmod 5 + ((4 + f).fmod 5 + 0)))) := rfl
      rw [e2] at hs
      have e3 : [a, b, c, d, f].sum = a + (b + (c + (d + (f + 0)))) := rfl
      rw [e3]
      simp only [Int.fmod_eq_emod_of_nonneg _ (show (0 : Int) ≤ 5 by decide)] at hs ⊢
      omega
theorem exN_apart {n : Nat} (hn : n = 4 ∨ n = 5) {us : List Nat} (hl : us.length = n) (hb : ∀ x ∈ us, x < n) (h : exN n us = true) : ∃ r ∈ rowsOf (us.map fun x : Nat => (x : Int)), apB (n : Int) r = true := by
  unfold exN at h
  rw [List.any_eq_true] at h
  obtain ⟨r, hr, hnd⟩ := h
  have hm : (us.take 1 ++ r).map (fun x : Nat => (x : Int)) ∈ rowsOf (us.map fun x : Nat => (x : Int)) := by
    unfold rowsOf
    rw [orders_eq, ← List.map_drop, ordersG_map, List.map_map, ← List.map_take]
    exact List.mem_map.mpr ⟨r, hr, by simp⟩
  refine ⟨_, hm, ?_⟩
  have hni : (n : Int) = 4 ∨ (n : Int) = 5 := by omega
  have ok := (rowsOf_ok (n := n) (ts := us.map fun x : Nat => (x : Int)) (by simpa using hl) (by omega) (by omega)).2 _ hm
  unfold apB
  rw [dOf_digs hni (by simpa using ok.1) (fun x hx => by
    have := ok.2 x hx
    obtain ⟨y, hy, rfl⟩ := List.mem_map.mp this
    have := hb y hy
    omega), digs_cast (by omega)]
  refine decide_eq_true ?_
  unfold List.Nodup
  rw [List.pairwise_map]
  exact (ndN_nodup hnd).imp fun h e => h (by omega)
theorem apart_iff {n : Int} (hn : n = 4 ∨ n = 5) {ts : List Int} (hl : ts.length = n.toNat) (hb : ∀ x ∈ ts, 0 ≤ x ∧ x < n) : (rowsOf ts).filter (apB n) = [] ↔ ts.sum.fmod n ≠ 0 := by
  constructor
  · intro h hs
    have nat : ts = (ts.map Int.toNat).map fun x : Nat => (x : Int) := by
      rw [List.map_map]
      conv => lhs; rw [← List.map_id ts]
      refine List.map_congr_left fun x hx => ?_
      have := (hb x hx).1
      simp
      omega
    have hex : exN n.toNat (ts.map Int.toNat) = true := by
      rcases hn with rfl | rfl
      · match ts, hl with
        | [a, b, c, d], _ =>
          have ha := hb a (by simp)
          have hbb := hb b (by simp)
          have hc := hb c (by simp)
          have hd := hb d (by simp)
          have e3 : [a, b, c, d].sum = a + (b + (c + (d + 0))) := rfl
          rw [e3, Int.fmod_eq_emod_of_nonneg _ (by decide)] at hs
          have h4 := ex4
          simp only [List.all_eq_true, List.mem_range, Bool.or_eq_true, Bool.not_eq_true'] at h4
          refine (h4 a.toNat (by omega) b.toNat (by omega) c.toNat (by omega) d.toNat (by omega)).resolve_left fun e => ?_
          have : (a.toNat + b.toNat + c.toNat + d.toNat) % 4 = 0 := by omega
          rw [this] at e
          exact absurd e (by decide)
      · match ts, hl with
        | [a, b, c, d, f], _ =>
          have ha := hb a (by simp)
          have hbb := hb b (by simp)
          have hc := hb c (by simp)
          have hd := hb d (by simp)
          have hf := hb f (by simp)
          have e3 : [a, b, c, d, f].sum = a + (b + (c + (d + (f + 0)))) := rfl
          rw [e3, Int.fmod_eq_emod_of_nonneg _ (by decide)] at hs
          have h5 := ex5
          simp only [List.all_eq_true, List.mem_range, Bool.or_eq_true, Bool.not_eq_true'] at h5
          refine (h5 a.toNat (by omega) b.toNat (by omega) c.toNat (by omega) d.toNat (by omega) f.toNat (by omega)).resolve_left fun e => ?_
          have : (a.toNat + b.toNat + c.toNat + d.toNat + f.toNat) % 5 = 0 := by omega
          rw [this] at e
          exact absurd e (by decide)
    obtain ⟨r, hr, hap⟩ := exN_apart (n := n.toNat) (by omega) (us := ts.map Int.toNat) (by rw [List.length_map]; exact hl) (fun x hx => by
      obtain ⟨y, hy, rfl⟩ := List.mem_map.mp hx
      have := hb y hy
      omega) hex
    rw [← nat] at hr
    have hnn : ((n.toNat : Nat) : Int) = n := by omega
    rw [hnn] at hap
    have : r ∈ (rowsOf ts).filter (apB n) := List.mem_filter.mpr ⟨hr, hap⟩
    rw [h] at this
    cases this
  · intro hs
    rw [List.filter_eq_nil_iff]
    intro r hr hap
    have ok := (rowsOf_ok hl (by omega) (by omega)).2 r hr
    exact hs (rowsOf_sum r hr ▸ apart_sum hn ok.1 (fun x hx => hb x (ok.2 x hx)) hap)
theorem rowsLed_of {news rl : Led} {rys : List Value} {rows : List (List Int)} (h : RelR rys rl rows) (hm : ∀ p ∈ rl, p ∈ news) : RowsLed news rys rows := by
  obtain ⟨rfl, hp⟩ := h
  have key : ∀ {l : Led} {rows : List (List Int)}, (∀ p ∈ l, p ∈ news) → Paired RowObj (l.map (·.2)) rows → RowsLed news (l.map fun p => .ref p.1) rows := by
    intro l
    induction l with
    | nil => intro rows _ hp; obtain _ | _ := hp; exact .nil
    | cons p l ih =>
      intro rows hm hp
      obtain _ | ⟨h1, h2⟩ := hp
      obtain ⟨vs, k, e, hi⟩ := h1
      have hp1 := hm p (.head _)
      exact .cons ⟨p.1, vs, k, rfl, by rw [← e]; exact hp1, hi⟩ (ih (fun q hq => hm q (.tail _ hq)) h2)
  exact key (fun p hp => hm p (List.mem_reverse.mp hp)) hp
theorem rowsLed_sel {news : Led} {rys : List Value} {rows : List (List Int)} (f : List Int → Bool) (h : RowsLed news rys rows) : RowsLed news (selV f (rys.zip rows)) (rows.filter f) := by
  unfold selV
  induction h with
  | nil => exact .nil
  | cons r _ ih =>
    rename_i v q vs qs _
    rw [List.zip_cons_cons]
    by_cases hf : f q = true
    · rw [List.filter_cons_of_pos (by exact hf), List.filter_cons_of_pos hf, List.map_cons]
      exact .cons r ih
    · rw [List.filter_cons_of_neg (by exact hf), List.filter_cons_of_neg hf]
      exact ih
theorem thr_len {n : Int} (hn : n = 4 ∨ n = 5) (ns : List Int) : (thr n ns).length = (n - 1).toNat := by
  unfold thr
  rw [List.length_map, List.length_take, List.length_append, List.length_take]
  simp only [List.length_cons, List.length_nil]
  omega
theorem thr_bound {n : Int} (hn : 0 < n) (ns : List Int) : ∀ x ∈ thr n ns, 0 ≤ x ∧ x < n := by
  intro x hx
  unfold thr at hx
  obtain ⟨y, _, rfl⟩ := List.mem_map.mp hx
  exact ⟨Int.fmod_nonneg_of_pos _ hn, Int.fmod_lt_of_pos _ hn⟩
section
variable {w : World} {mean : ExcName → Option Value} {mg mb : Str → Option Value} {s : Shared} {h₀ base : Heap} {L fa l : Addr} {cd : Value} {m : Str → Option Value} {dp un : Nat} {gd : Option (List Code)} {Q : Flow → Shared → Prop} {vs : List Value} {ns : List Int} {n way : Int} {t tw : Tok} {o1 o2 o3 o4 : Obj}
theorem step {A : Around} {a : Stmt} {r : List Stmt} {env : Env} (h : wpAny (model prg w) A (exec a env) (fun f s' => match f with | .next => wpAny (model prg w) A (execs r env) Q Ef s' | f => Q f s') Ef s) : wpAny (model prg w) A (execs (a :: r) env) Q Ef s := wpAny_execs_cons h
theorem lawTail (hn : n = 4 ∨ n = 5) (hw : way = 1 ∨ way = -1) (B : Below (AK dp un gd []) base [] h₀) (hdp : dp + 61 < recursionLimit) (hun : un + 603 < cLine) (X : (hd.heap_39 w.params).In h₀) (T : Top hd.view_39 lz mean mg mb h₀) (F : Fr h₀ L s.heap m)
    (N : News h₀ L s.heap [(L + 4, o4), (L + 3, o3), (L + 2, o2), (L + 1, o1)]) (d1 : o1.data = .cell (some (.int n t))) (d2 : o2.data = .cell (some (.int way tw))) (d3 : o3.data = .cell none) (d4 : o4.data = .cell none)
    (hm : m (Str.ofString "script") = some (.ref l)) (hl : h₀.IsList l vs.toArray) (hi : IntsAre vs ns) (h63 : ns.length ≤ 63)
    (ret : ∀ h' tk m', Fr h₀ L h' m' → Q (.ret (.bool true)) { s with heap := h', toks := tk }) :
    wpAny (model prg w) ((AK dp un gd []).deeper (lenv L fa cd)) (execs [lawS 2, lawS 3, lawS 4, lawS 5, lawS 6, lawS 7, lawS 8, lawS 9, lawS 10, lawS 11, lawS 12, lawS 13] (lenv L fa cd)) Q Ef s := by
  have hv63 : vs.length ≤ 63 := by rw [hi.length]; exact h63
  have Bf : ∀ h m, Fr h₀ L h m → Below (AK (dp + 1) (un + 3) gd [lenv L fa cd]) base [lenv L fa cd] h := fun h m F => pushX (env := lenv L fa cd) B F rfl rfl
  show wpAny (model prg w) (AK (dp + 1) (un + 3) gd [lenv L fa cd]) _ _ _ _
  -- the throws
  refine step (st3 hn B X T F N d1 d3 hm hl hi h63 hv63 fun h3 tk3 D ys3 o3' F3 N3 d3' I3 => ?_)
  refine step (st4 hn B X T F3 N3 d1 d2 d3' d4 hm hl hi h63 hv63 I3 (by rw [thr_len hn]; omega) fun h4 tk4 ys k4 F4 N4 I4 => ?_)
  generalize hts : thr n ns ++ [((ns.length : Int).fmod 2 - (thr n ns).sum).fmod n] = ts at I4
  have n0 : 0 < n := by omega
  have htl : ts.length = n.toNat := by rw [← hts, List.length_append, thr_len hn]; simp; omega
  have htn : ∀ x ∈ ts, 0 ≤ x ∧ x < n := fun x hx => by
    rw [← hts] at hx
    rcases List.mem_append.mp hx with hx | hx
    · exact thr_bound n0 ns x hx
    · rw [List.mem_singleton.mp hx]
      exact ⟨Int.fmod_nonneg_of_pos _ n0, Int.fmod_lt_of_pos _ n0⟩
  clear hts N3 F3 I3 N F
  -- the hues and the lands
  refine step (st5 hn Bf (by omega) (by omega) X T F4 N4 (o1 := o1) (by k_mem) d1 fun h5 tk5 H hys F5 N5 Fl => ?_)
  refine step (st6 hn Bf (by omega) (by omega) X T F5 N5 (o1 := o1) (o4 := o4) (by k_mem) d1 (by k_mem) d4 (if_pos rfl) Fl fun h6 tk6 LL lys lrl o4' F6 N6 d4' hlrel => ?_)
  generalize hN6 : ((LL, lstO lys lys.length) :: (L + 4, o4') :: (lrl ++ [(D, lstO ys k4), (L + 3, o3'), (L + 4, o4), (L + 2, o2), (L + 1, o1)].filter (fun q => q.1 != L + 4)) : Led) = S6 at N6
  have mD : (D, lstO ys k4) ∈ S6 := by
    rw [← hN6]
    refine .tail _ (.tail _ (List.mem_append.mpr (.inr (List.mem_filter.mpr ⟨.head _, ?_⟩))))
    have := notCell N4 (.head _) (o := o4) (by k_mem) d4
    simpa using this
  have m3 : (L + 3, o3') ∈ S6 := by
    rw [← hN6]
    exact .tail _ (.tail _ (List.mem_append.mpr (.inr (List.mem_filter.mpr ⟨by k_mem, by simpa using addNe L (by decide)⟩))))
  have m2 : (L + 2, o2) ∈ S6 := by
    rw [← hN6]
    exact .tail _ (.tail _ (List.mem_append.mpr (.inr (List.mem_filter.mpr ⟨by k_mem, by simpa using addNe L (by decide)⟩))))
  have m1 : (L + 1, o1) ∈ S6 := by
    rw [← hN6]
    exact .tail _ (.tail _ (List.mem_append.mpr (.inr (List.mem_filter.mpr ⟨by k_mem, by simpa using addNe L (by decide)⟩))))
  have mLL : (LL, lstO lys lys.length) ∈ S6 := by rw [← hN6]; exact .head _
  have m4 : (L + 4, o4') ∈ S6 := by rw [← hN6]; exact .tail _ (.head _)
  have mlr : ∀ p ∈ lrl, p ∈ S6 := fun p hp => by rw [← hN6]; exact .tail _ (.tail _ (List.mem_append.mpr (.inl hp)))
  clear hN6 N4 N5
  -- the rows
  refine step (st7 hn Bf (by omega) (by omega) X T F6 (fun p hp => N6 p (by
    rcases List.mem_cons.mp hp with rfl | hp
    · exact mD
    rcases List.mem_cons.mp hp with rfl | hp
    · exact m3
    · exact hp) : News h₀ L h6 ((D, lstO ys k4) :: (L + 3, o3') :: S6)) d3' I4 htl fun h7 tk7 R rys rl F7 N7 hrel => ?_)
  generalize hN7 : ((R, lstO rys rys.length) :: (rl ++ (D, lstO ys k4) :: (L + 3, o3') :: S6) : Led) = S7 at N7
  have u7 : ∀ p ∈ S6, p ∈ S7 := fun p hp => by rw [← hN7]; exact .tail _ (List.mem_append.mpr (.inr (.tail _ (.tail _ hp))))
  have mR : (R, lstO rys rys.length) ∈ S7 := by rw [← hN7]; exact .head _
  have mrl : ∀ p ∈ rl, p ∈ S7 := fun p hp => by rw [← hN7]; exact .tail _ (List.mem_append.mpr (.inl hp))
  clear hN7 N6
  have hok := rowsOf_ok htl (by omega) (by omega)
  have hrl := rowsLed_sel (apB n) (rowsLed_of hrel mrl)
  have hav : (selV (apB n) (rys.zip (rowsOf ts))).length ≤ 24 := by
    have := selV_len (apB n) (rys.zip (rowsOf ts))
    rw [List.length_zip] at this
    omega
  have hok' : ∀ r ∈ (rowsOf ts).filter (apB n), r.length = n.toNat ∧ ∀ x ∈ r, 0 ≤ x ∧ x < 5 := fun r hr => by
    have h1 := hok.2 r (List.mem_filter.mp hr).1
    refine ⟨h1.1, fun x hx => ?_⟩
    have := htn x (h1.2 x hx)
    omega
  have hP := apart_iff hn htl htn
  refine step (st8 hn Bf (by omega) (by omega) X T F7 N7 mR mrl hrel (u7 _ mLL) (fun p hp => u7 p (mlr p hp)) hlrel (u7 _ m4) d4' (if_pos rfl) htl htn fun h8 tk8 Ap F8 N8 => ?_)
  generalize hsel : selV (apB n) (rys.zip (rowsOf ts)) = avs at hrl hav N8
  -- whole turns
  refine step (st9 hn (by omega) X T F8 (fun p hp => by
    rcases List.mem_cons.mp hp with rfl | hp
    · exact N8 _ (.head _)
    rcases List.mem_cons.mp hp with rfl | hp
    · exact N8 _ (.tail _ (u7 _ mD))
    rcases List.mem_cons.mp hp with rfl | hp
    · exact N8 _ (.tail _ (u7 _ m3))
    rcases List.mem_cons.mp hp with rfl | hp
    · exact N8 _ (.tail _ (u7 _ m1))
    · exact N8 p (.tail _ hp) : News h₀ L h8 ((Ap, lstO avs avs.length) :: (D, lstO ys k4) :: (L + 3, o3') :: (L + 1, o1) :: S7)) d1 d3' I4 htl hrl (if_pos rfl) hP fun h9 tk9 F9 N9' => ?_)
  have N9 : News h₀ L h9 ((Ap, lstO avs avs.length) :: S7) := fun p hp => by
    rcases List.mem_cons.mp hp with rfl | hp
    · exact N9' _ (.head _)
    · exact N9' p (.tail _ (.tail _ (.tail _ (.tail _ hp))))
  clear N8 N9'
  -- the remainders
  refine step (st10 hn Bf (by omega) (by omega) X T F9 N9 mR mrl hrel (u7 _ m1) d1 hsel.symm hrl ((if_neg (by decide)).trans (if_pos rfl)) (if_pos rfl) htl htn fun h10 tk10 F10 N10 => ?_)
  clear N9 F9
  -- the judge
  refine step (st11 hn B (by omega) (by omega) X T F10 N10 (.tail _ (u7 _ m1)) d1 (.tail _ (u7 _ m2)) d2 fun h11 tk11 x d c tc tys tl tk F11 N11 htr => ?_)
  generalize hS : ((x, instObj 76 d) :: (d, dictOf [{ hash := PyData.keyHash w.params (Str.ofString "comp_select_list"), key := .str (Str.ofString "comp_select_list") tc, val := .ref c }] 1) :: (c, lstO tys tk) :: (tl ++ (Ap, lstO avs avs.length) :: S7) : Led) = S at N11
  have uS : ∀ p ∈ ((Ap, lstO avs avs.length) :: S7 : Led), p ∈ S := fun p hp => by rw [← hS]; exact .tail _ (.tail _ (.tail _ (List.mem_append.mpr (.inr hp))))
  have mx : (x, instObj 76 d) ∈ S := by rw [← hS]; exact .head _
  have md : (d, dictOf [{ hash := PyData.keyHash w.params (Str.ofString "comp_select_list"), key := .str (Str.ofString "comp_select_list") tc, val := .ref c }] 1) ∈ S := by rw [← hS]; exact .tail _ (.head _)
  have mc : (c, lstO tys tk) ∈ S := by rw [← hS]; exact .tail _ (.tail _ (.head _))
  have mtl : ∀ p ∈ tl, p ∈ S := fun p hp => by rw [← hS]; exact .tail _ (.tail _ (.tail _ (List.mem_append.mpr (.inl hp))))
  clear hS N10
  have hrS : RowsLed S avs ((rowsOf ts).filter (apB n)) := hrl.mono fun p hp => uS p (.tail _ hp)
  -- the first of them
  refine step (st12 X T F11 N11 (uS _ (.head _)) ((if_neg (by decide)).trans (if_pos rfl)) hav fun h12 tk12 Fa F12 N12 => ?_)
  refine step (st13 hn hw Bf (by omega) (by omega) X T F12 N12 (uS _ (.head _)) hav hrS hok' mx md mc mtl htr ((if_neg (by decide)).trans ((if_neg (by decide)).trans (if_pos rfl))) (if_pos rfl) ((if_neg (by decide)).trans (if_pos rfl)) fun h13 tk13 m' Fb fv kF F13 N13 g1 g2 hFO => ?_)
  refine step (st14 hn hw (by omega) X T F13 (fun p hp => N13 p (by
    rcases List.mem_cons.mp hp with rfl | hp
    · exact .head _
    rcases List.mem_cons.mp hp with rfl | hp
    · exact .tail _ (uS _ (.tail _ (u7 _ m2)))
    · exact .tail _ hp) : News h₀ L h13 ((Fb, lstO fv kF) :: (L + 2, o2) :: S)) d2 (uS _ (.head _)) hav hrS hok' g1 g2 hFO fun h14 tk14 F14 => ?_)
  exact ret _ _ _ F14
end
end Mine
namespace Mine
theorem two (a : Int) : a.fmod 2 = 0 ∨ a.fmod 2 = 1 := by
  have h1 := Int.fmod_nonneg_of_pos a (show (0 : Int) < 2 by decide)
  have h2 := Int.fmod_lt_of_pos a (show (0 : Int) < 2 by decide)
  omega
end Mine
theorem PySem.Challenge.cw_pg0250_01_holds : PySem.Challenge.rw_pg0250_01.Holds := by
  refine Mine.hd ?_
  k_go0
  all_goals (try k_fold)
  repeat ((fail_if_success (with_reducible show wpAny _ _ (execs (Stmt.Assign _ (Expr.ListComp _ _ _ _) _ :: _) _) _ _ _)); first | walk1 | (dsimp only; walk1))
  rename Shared => s1
  rename Top _ _ _ _ _ _ => T9
  rename Below _ _ _ _ => B9
  rename Frag.In _ _ => X9
  rename Fr _ _ _ _ => F9
  rename News _ _ _ _ => N9
  rename Heap.IsList _ _ _ => L9
  rename IntsAre _ (List.take 3 _) => I1
  clear I1
  rename IntsAre _ (List.take 2 _) => I2
  clear I2
  rename IntsAre _ _ => I9
  rename ¬ _ < _ => h9
  have h63 : _ ≤ 63 := Nat.le_of_not_lt fun q => h9 (by exact_mod_cast q)
  have N8 := fun p hp => N9 p (.tail _ (.tail _ hp))
  with_unfolding_all refine' wpAny_mono (E := Mine.Ef) (Mine.lawTail (dp := callerA.depth) (un := callerA.units) (gd := callerA.guards) ?h1 ?h2 ?h3 ?h4 ?h5 ?h6 ?h7 ?h8 ?h9 ?d1 ?d2 ?d3 ?d4 ?hm ?hl ?hi ?h63 ?ret) (fun _ _ q => q) (fun _ _ x => x.elim)
  (case h8 => exact F9)
  (case h9 => exact N8)
  (case d1 => assumption)
  (case d2 => assumption)
  (case h3 => exact B9)
  (case h4 => decide)
  (case h5 => decide)
  (case h6 => exact X9)
  (case h7 => exact T9)
  (case d3 => assumption)
  (case d4 => assumption)
  (case hm => with_unfolding_all rfl)
  (case hl => exact L9)
  (case hi => exact I9)
  (case h63 => exact h63)
  (case h1 => (rcases Mine.two (List.take 2 _).sum with e | e <;> rw [e] <;> decide))
  (case h2 => (rcases Mine.two (Int.fdiv (List.take 3 _).sum 2) with e | e <;> rw [e] <;> decide))
  intro h7 tk7 m7 F7
  dsimp only [qk]
  k_steps
